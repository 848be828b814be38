import PyProof.Rows.All
import Wide.All
import OpenK.AllK
import Wide.FinOn
import Lean
import PySem.Challenge.RW_mj0092_02
open PySem PySem.W PyProof.Rows
set_option Elab.async false
set_option maxRecDepth 100000
set_option maxHeartbeats 4000000
set_option linter.unusedVariables false
set_option linter.unusedSimpArgs false
namespace Mine
open Builtin Builtin.ObjectAttr

theorem fn_store : StoreFacts "function" [.type "function", .type "object"] "object.__setattr__" "object" where
  mro := by kernel_rfl
  slot := .of (owner := "object") (n := "__setattr__") (by rw [typeLookup_type, builtinLookup_eq_fast]; kernel_rfl) (by decide +kernel) (by decide +kernel) (by decide +kernel)
    (by first | exact .inl (by decide +kernel) | exact .inr (by decide +kernel)) (by rw [isSubtype_type]; kernel_rfl)
  entry := PySem.F.entry_object_sa
  kind := by decide +kernel
  split := by decide +kernel
  hasOwner := by decide +kernel
  args := fun a b c => by unfold argsOk; kernel_rfl
  passes := fun self => by kernel_rfl

section
variable {prog : Program} {w : World} {A : Around} {E : Value → Shared → Prop} {h : Heap} {g : Array GenState} {d : Drawn} {t : Nat} {os : OsState}

theorem fn_truthy {M : Model} {s : Shared} {a : Addr} {o : Obj} {Q : Bool → Shared → Prop} (ha : s.heap.get? a = some o) (hc : o.cls = .type "function") (hq : Q true s) :
    wpAny M A (truthy (.ref a)) Q E s := by
  have hT : s.TypeIs (.ref a) "function" := ⟨o, ha, hc⟩
  have h1 : typeLookup (.type "function") "__bool__" = pure none := by rw [typeLookup_type, builtinLookup_eq_fast]; kernel_rfl
  have h2 : typeLookup (.type "function") "__len__" = pure none := by rw [typeLookup_type, builtinLookup_eq_fast]; kernel_rfl
  unfold truthy
  wp_walk
  exact hq

theorem fn_store_entry {x : Addr} {o : Obj} {name : Str} {v : Value} {tk : Tok} {Q : Fin → Shared → Prop}
    (hx : h.get? x = some o) (hc : o.cls = .type "function") (hd : o.dict = none) {fd : FuncData} (hf : o.data = .func fd)
    (hB : typeLookup (.type "function") name = pure none)
    (hq : ∀ h' tk', h'.get? x = some { o with dict := some h.objs.size } → h'.Ns h.objs.size (fun y => if y = name then some v else none) →
      h.objs.size < h'.objs.size → (∀ b o', b ≠ x → h.get? b = some o' → h'.get? b = some o') → Q (.done (.ret .none)) ⟨h', g, d, tk', os⟩) :
    wpAny (model prog w) A (Builtin.«object.__setattr__» ⟨[.ref x, .str name tk, v], []⟩) Q E ⟨h, g, d, t, os⟩ := by
  have hpass := fn_store.passes (.ref x)
  have hmro := fn_store.mro
  have hhas : typeHasDict (.type "function") = true := by decide +kernel
  unfold Builtin.«object.__setattr__»
  repeat (first | rw [refuse_eq] | (rw [hpass]) | (with_reducible refine wpAny_loadPart_at hx ?_; rw [hc]) | wp_step)
  rw [hd, if_neg (by simp [hhas]), hf]
  have hx₁ : (h.push { cls := .type "dict", data := .dict #[] }).get? x = some o := Heap.get?_push_of_some _ hx
  have hxs : x ≠ h.objs.size := Nat.ne_of_lt (Heap.lt_size hx)
  refine wpAny_bind (wpAny_alloc' ?_)
  refine wpAny_bind (wpAny_update' hx₁ ?_)
  have hfin : dictMade (.type "function") x h.objs.size = pure (some h.objs.size) := rfl
  rw [hfin]
  refine wpAny_pure ?_
  have hgd : ((h.push { cls := .type "dict", data := .dict #[] }).update x fun o => { cls := o.cls, dict := some h.objs.size, data := o.data, slots := o.slots }).get? h.objs.size
      = some { cls := .type "dict", data := .dict #[] } :=
    (Heap.get?_update_ne _ _ _ _ hxs.symm).trans (Heap.get?_push_at rfl rfl)
  have hnd : ((h.push { cls := .type "dict", data := .dict #[] }).update x fun o => { cls := o.cls, dict := some h.objs.size, data := o.data, slots := o.slots }).Ns h.objs.size (fun _ => none) :=
    ⟨_, #[], _, hgd, rfl, fun e he => absurd he (by simp), fun _ => rfl⟩
  show wpAny _ _ (storeInDict h.objs.size (.str name tk) name v) _ _ _
  unfold storeInDict newKeyGuard
  refine wpAny_bind (wpAny_pure (wpAny_bind (wpAny_nsSet1 (Heap.Ns1.of_empty hnd) fun h' hn' hs => ?_)))
  obtain ⟨oD, esD, epD, hoD, hdD, hcD⟩ := hn'.count (Within.cons name v Within.nil)
  refine wpAny_bind (wpAny_lookBehind hoD (by rw [hdD]; exact pastItsLine_dict (Nat.le_trans hcD (by rw [List.length_cons, List.length_nil, sizeLine_eq]; omega))) ?_)
  wp_walk
  refine hq h' _ ?_ hn'.ns ?_ fun b ob hbx hb => ?_
  · refine (hs.2 x hxs).trans (Heap.get?_update_self _ hx₁ ?_)
    have hfr := (Heap.get?_some_iff.mp hx).2
    obtain ⟨oc, od, odt, osl⟩ := o
    cases odt <;> first | rfl | exact hfr
  · rw [hs.1, Heap.size_after_update, Heap.size_push]; exact Nat.lt_succ_self _
  · exact (hs.2 b (Nat.ne_of_lt (Heap.lt_size hb))).trans ((Heap.get?_update_ne _ _ _ _ hbx).trans (Heap.get?_push_of_some _ hb))

theorem fn_setattr {x : Addr} {o : Obj} {name : Str} {v : Value} {Q : Unit → Shared → Prop}
    (hx : h.get? x = some o) (hc : o.cls = .type "function") (hd : o.dict = none) {fd : FuncData} (hf : o.data = .func fd)
    (hB : typeLookup (.type "function") name = pure none)
    (hq : ∀ h' tk', h'.get? x = some { o with dict := some h.objs.size } → h'.Ns h.objs.size (fun y => if y = name then some v else none) →
      h.objs.size < h'.objs.size → (∀ b o', b ≠ x → h.get? b = some o' → h'.get? b = some o') → Q () ⟨h', g, d, tk', os⟩) :
    wpAny (model prog w) A (setAttr (.ref x) name v) Q E ⟨h, g, d, t, os⟩ := by
  have f3 := fn_store.slot.bind (.ref x)
  have f4 := fn_store.slot.lookup
  unfold setAttr callSpecial? specialOf
  repeat (any_goals (first | assumption | (with_reducible refine wpAny_loadPart_at hx ?_; rw [hc]) | wp_step))
  refine codeAny_call_builtin fn_store.slot.plain fn_store.entry ?_
  refine fn_store.slot.check _ _ _ _ _ _ _ _ ⟨o, hx, hc⟩ (fn_store.args _ _ _) (fn_store_entry hx hc hd hf hB fun h' tk' a b c e => ?_)
  repeat (any_goals (first | assumption | wp_step))
  exact hq h' tk' a b c e

theorem fn_lk_ga : typeLookup (.type "function") "__getattribute__" = pure (some (.builtin "object.__getattribute__")) := by rw [typeLookup_type, builtinLookup_eq_fast]; kernel_rfl
theorem fn_lk_hook : typeLookup (.type "function") "__getattr__" = pure none := by rw [typeLookup_type, builtinLookup_eq_fast]; kernel_rfl

theorem fn_slot_ga : Slot "function" "__getattribute__" "object.__getattribute__" :=
  .of (owner := "object") (n := "__getattribute__") fn_lk_ga (by decide +kernel) (by decide +kernel) (by decide +kernel)
    (by first | exact .inl (by decide +kernel) | exact .inr (by decide +kernel)) (by rw [isSubtype_type]; kernel_rfl)
theorem fn_ga_args (a b : Value) : argsOk "object.__getattribute__" ⟨[a, b], []⟩ := by unfold argsOk; kernel_rfl
theorem fn_ga_entry : entryFor table "object.__getattribute__" = some Builtin.«object.__getattribute__» := entryFor_of_tree (by kernel_rfl)

theorem fn_load_entry {x dx : Addr} {o : Obj} {name : Str} {v : Value} {tk : Tok} {mA : Str → Option Value} {Q : Fin → Shared → Prop}
    (hx : h.get? x = some o) (hc : o.cls = .type "function") (hd : o.dict = some dx) {fd : FuncData} (hf : o.data = .func fd)
    (hns : h.Ns dx mA) (hv : mA name = some v) (hB : typeLookup (.type "function") name = pure none)
    (hq : Q (.done (.ret v)) ⟨h, g, d, t, os⟩) :
    wpAny (model prog w) A (Builtin.«object.__getattribute__» ⟨[.ref x, .str name tk], []⟩) Q E ⟨h, g, d, t, os⟩ := by
  unfold Builtin.«object.__getattribute__»
  repeat (first | (with_reducible refine wpAny_loadPart_at hx ?_; rw [hc]) | wp_step)
  rw [hf]
  unfold instanceDict
  repeat (first | (with_reducible refine wpAny_loadPart_at hx ?_; rw [hc]) | wp_step)
  rw [hd]
  repeat (first | (with_reducible refine wpAny_nsGet hns ?_; rw [hv]) | wp_step)
  exact hq

/-- a function's own attribute, read -/
theorem fn_getattr {x dx : Addr} {o : Obj} {name : Str} {v : Value} {mA : Str → Option Value} {ex : Bool} {Q : Value → Shared → Prop}
    (hx : h.get? x = some o) (hc : o.cls = .type "function") (hd : o.dict = some dx) {fd : FuncData} (hf : o.data = .func fd)
    (hns : h.Ns dx mA) (hv : mA name = some v) (hh : handedOut v = pure v) (hB : typeLookup (.type "function") name = pure none)
    (hq : Q v ⟨h, g, d, t + 1, os⟩) :
    wpAny (model prog w) A (getAttr (.ref x) name ex) Q E ⟨h, g, d, t, os⟩ := by
  have f1 := fn_lk_ga
  unfold getAttr getAttrBy
  repeat (first | (with_reducible refine wpAny_loadPart_at hx ?_; rw [hc]) | wp_step)
  rw [if_neg (by simp [onTheHeap])]
  unfold boundAndCalled
  refine wpAny_bind (wpAny_of_eq (fn_slot_ga.bind _) ?_)
  refine wpAny_call (codeAny_call_builtin fn_slot_ga.plain fn_ga_entry (fn_slot_ga.check _ _ _ _ _ _ _ _ ⟨o, hx, hc⟩ (fn_ga_args _ _) ?_))
  refine fn_load_entry hx hc hd hf hns hv hB ?_
  repeat (first | assumption | wp_step)

theorem fn_method {x dx : Addr} {o : Obj} {name : Str} {v : Value} {mA : Str → Option Value} {pl : Sem Bool} {Q : Value × List Value → Shared → Prop}
    (hx : h.get? x = some o) (hc : o.cls = .type "function") (hd : o.dict = some dx) {fd : FuncData} (hf : o.data = .func fd)
    (hns : h.Ns dx mA) (hv : mA name = some v) (hh : handedOut v = pure v) (hB : typeLookup (.type "function") name = pure none)
    (hq : Q (v, []) ⟨h, g, d, t + 1, os⟩) :
    wpAny (model prog w) A (getMethod (.ref x) name pl) Q E ⟨h, g, d, t, os⟩ := by
  have hcan := PySem.F.canon_object_ga
  have f1 := fn_lk_ga
  have f2 := fn_lk_hook
  have hT : (⟨h, g, d, t, os⟩ : Shared).TypeIs (.ref x) "function" := ⟨o, hx, hc⟩
  unfold getMethod
  refine wpAny_bind (wpAny_specialOf hT f1 ?_)
  simp only [hcan, Bool.false_eq_true, if_false]
  refine wpAny_bind (wpAny_specialOf hT f2 ?_)
  simp only [Option.isSome_none, Bool.false_eq_true, if_false]
  refine wpAny_bind (wpAny_specialOf hT hB ?_)
  refine wpAny_bind (fn_getattr hx hc hd hf hns hv hh hB ?_)
  exact wpAny_pure hq
end
end Mine
namespace Mine

/-! ## heaps: what a call may change -/

/-- a maker's code, its table, and the places of the defs within it with their qualified names -/
structure TabI where
  c : Addr
  P : Addr
  qs : List (Pos × Str)

def CodeC (h : Heap) (cv : Value) (q : Str) : Prop :=
  ∃ c o vs t, cv = .ref c ∧ h.get? c = some o ∧ o.cls = .type "code" ∧ o.data = .fields vs ∧ vs[1]? = some (.str q t)
theorem CodeC.rec {h : Heap} {cv : Value} {q : Str} (x : CodeC h cv q) : h.CodeRec cv q :=
  let ⟨c, o, vs, t, a, b, _, e, f⟩ := x; ⟨c, o, vs, t, a, b, e, f⟩
theorem CodeC.keeps {h h' : Heap} {cv : Value} {q : Str} (x : CodeC h cv q) (k : ∀ b o, h.get? b = some o → o.cls = .type "code" → (∃ vs, o.data = .fields vs) → h'.get? b = some o) : CodeC h' cv q :=
  let ⟨c, o, vs, t, a, b, e, f, g⟩ := x; ⟨c, o, vs, t, a, k _ _ b e ⟨_, f⟩, e, f, g⟩

def TabOk (h : Heap) (t : TabI) : Prop :=
  ∃ ps, h.get? t.P = some (tabObj ps) ∧ TriplesOk ps.toList ∧ ∀ q ∈ t.qs, ∀ cv, codeAmong q.1 ps.toList = some cv → CodeC h cv q.2
def Tabs (ts : List TabI) (h : Heap) : Prop := ∀ t ∈ ts, TabOk h t
def tP (ts : List TabI) : List Addr := ts.map (·.P)
theorem Tabs.lt {ts : List TabI} {h : Heap} (x : Tabs ts h) {p : Addr} (hp : p ∈ tP ts) : p < h.objs.size := by
  obtain ⟨t, ht, rfl⟩ := List.mem_map.mp hp
  obtain ⟨_, e, _⟩ := x t ht
  exact Heap.lt_size e
theorem Tabs.keeps {ts : List TabI} {h h' : Heap} (x : Tabs ts h) (k : ∀ b o, h.get? b = some o → (b ∈ tP ts ∨ (o.cls = .type "code" ∧ ∃ vs, o.data = .fields vs)) → h'.get? b = some o) : Tabs ts h' := fun t ht => by
  obtain ⟨ps, e, h1, h2⟩ := x t ht
  exact ⟨ps, k _ _ e (.inl (List.mem_map_of_mem ht)), h1, fun q hq cv hc => (h2 q hq cv hc).keeps fun b o e c d => k b o e (.inr ⟨c, d⟩)⟩

/-- all that stood is as it was, but for the makers' tables -/
structure Ext (ts : List TabI) (h h' : Heap) : Prop where
  keep : ∀ b o, h.get? b = some o → b ∉ tP ts → h'.get? b = some o
  size : h.objs.size ≤ h'.objs.size
  tabs : Tabs ts h → Tabs ts h'
theorem Ext.refl {ts : List TabI} (h : Heap) : Ext ts h h := ⟨fun _ _ e _ => e, Nat.le_refl _, id⟩
theorem Ext.trans {ts : List TabI} {h h' h'' : Heap} (x : Ext ts h h') (y : Ext ts h' h'') : Ext ts h h'' :=
  ⟨fun b o e n => y.keep b o (x.keep b o e n) n, Nat.le_trans x.size y.size, fun t => y.tabs (x.tabs t)⟩
theorem Ext.stays {ts : List TabI} {h h' : Heap} (k : ∀ b o, h.get? b = some o → h'.get? b = some o) (hs : h.objs.size ≤ h'.objs.size) : Ext ts h h' :=
  ⟨fun b o e _ => k b o e, hs, fun t => t.keeps fun b o e _ => k b o e⟩
theorem Ext.push {ts : List TabI} {h h' : Heap} (x : Ext ts h h') (o : Obj) : Ext ts h (h'.push o) :=
  x.trans (.stays (fun _ _ e => Heap.get?_push_of_some _ e) (by rw [Heap.size_push]; omega))

/-- an object of another kind, met no more by the tables -/
def NoCode (o : Obj) : Prop := o.cls ≠ .type "code" ∨ ∀ vs, o.data ≠ .fields vs
theorem Ext.but {ts : List TabI} {g h h' : Heap} {a : Addr} {o : Obj} (x : Ext ts g h) (ha : h.get? a = some o) (hn : NoCode o) (hg : g.objs.size ≤ a) (hP : a ∉ tP ts) (hs : Heap.SameBut a h h') : Ext ts g h' := by
  refine ⟨fun b ob e n => (hs.2 b ?_).trans (x.keep b ob e n), by rw [hs.1]; exact x.size, fun t => (x.tabs t).keeps fun b ob e c => (hs.2 b ?_).trans e⟩
  · exact Nat.ne_of_lt (Nat.lt_of_lt_of_le (Heap.lt_size e) hg)
  · rintro rfl
    rcases c with c | ⟨c1, vs, c2⟩
    · exact hP c
    · rw [ha] at e; cases e
      rcases hn with hn | hn
      · exact hn c1
      · exact hn _ c2

/-! ## a frame: its names, its base, what it has made -/

def IsCodeO (o : Obj) : Prop := o.cls = .type "code" ∧ ∃ vs, o.data = .fields vs
theorem NoCode.not {o : Obj} (h : NoCode o) : ¬ IsCodeO o := fun ⟨a, vs, b⟩ => h.elim (fun c => c a) fun c => c vs b
/-- two entries of a ledger: of two places, or both of a code's (these may be met twice) -/
def Apart (p q : Addr × Obj) : Prop := p.1 ≠ q.1 ∨ (IsCodeO p.2 ∧ IsCodeO q.2)
theorem Apart.symm {p q : Addr × Obj} (h : Apart p q) : Apart q p := h.elim (fun a => .inl (Ne.symm a)) fun a => .inr ⟨a.2, a.1⟩
theorem Tabs.ne {ts : List TabI} {h : Heap} (T : Tabs ts h) {b : Addr} {o : Obj} (e : h.get? b = some o) (hne : ∀ ps, o ≠ tabObj ps) : b ∉ tP ts := fun hp => by
  obtain ⟨t, ht, rfl⟩ := List.mem_map.mp hp
  obtain ⟨ps, e', _⟩ := T t ht
  rw [e] at e'; cases e'; exact hne ps rfl
theorem IsCodeO.off {o : Obj} (h : IsCodeO o) : ∀ ps, o ≠ tabObj ps := fun ps q => by have := h.1; rw [q] at this; cases this

structure FS (ts : List TabI) (g : Heap) (L : Addr) (m : Str → Option Value) (N : List (Addr × Obj)) (h : Heap) : Prop where
  ext : Ext ts g h
  ns : h.Ns L m
  above : g.objs.size ≤ L
  news : ∀ p ∈ N, h.get? p.1 = some p.2 ∧ p.1 ≠ L ∧ (g.objs.size ≤ p.1 ∨ IsCodeO p.2)
  nd : N.Pairwise Apart
  tb : Tabs ts g

/-- what a call gives back: its ledger, as the caller sees it -/
def Led (h : Heap) (F : List (Addr × Obj)) (h' : Heap) : Prop := (∀ p ∈ F, h'.get? p.1 = some p.2 ∧ (h.objs.size ≤ p.1 ∨ IsCodeO p.2)) ∧ F.Pairwise Apart

namespace FS
variable {ts : List TabI} {g h h' : Heap} {L a : Addr} {m m' : Str → Option Value} {N : List (Addr × Obj)} {o : Obj}
theorem offP (S : FS ts g L m N h) {b : Addr} (hb : g.objs.size ≤ b) : b ∉ tP ts := fun hp => absurd (Nat.lt_of_lt_of_le (S.tb.lt hp) hb) (Nat.lt_irrefl _)
theorem tabs (S : FS ts g L m N h) : Tabs ts h := S.ext.tabs S.tb
theorem off (S : FS ts g L m N h) {p : Addr × Obj} (hp : p ∈ N) : p.1 ∉ tP ts := (S.news p hp).2.2.elim S.offP fun c => S.tabs.ne (S.news p hp).1 c.off
theorem new (S : FS ts g L m N h) {p : Addr × Obj} (hp : p ∈ N) (hc : NoCode p.2) : g.objs.size ≤ p.1 := (S.news p hp).2.2.elim id fun c => absurd c hc.not
theorem lt (S : FS ts g L m N h) : L < h.objs.size := S.ns.lt
theorem get (S : FS ts g L m N h) (hm : (a, o) ∈ N) : h.get? a = some o := (S.news _ hm).1
theorem base (S : FS ts g L m N h) {b : Addr} {ob : Obj} (e : g.get? b = some ob) (hb : b ∉ tP ts) : h.get? b = some ob := S.ext.keep b ob e hb
theorem set (S : FS ts g L m N h) (hn : h'.Ns L m') (hs : Heap.SameBut L h h') : FS ts g L m' N h' := by
  obtain ⟨oL, es, ep, hL, hd, _⟩ := S.ns
  refine ⟨S.ext.but hL (.inr fun vs q => by rw [hd] at q; cases q) S.above (S.offP S.above) hs, hn, S.above, fun p hp => ?_, S.nd, S.tb⟩
  exact ⟨(hs.2 p.1 (S.news p hp).2.1).trans (S.news p hp).1, (S.news p hp).2⟩
theorem call (S : FS ts g L m N h) (x : Ext ts h h') : FS ts g L m N h' :=
  ⟨S.ext.trans x, let ⟨o, es, ep, e, r⟩ := S.ns; ⟨o, es, ep, x.keep _ _ e (S.offP S.above), r⟩, S.above,
    fun p hp => ⟨x.keep _ _ (S.news p hp).1 (S.off hp), (S.news p hp).2⟩, S.nd, S.tb⟩
theorem push (S : FS ts g L m N h) (o : Obj) (hf : o.isFreed = false := by rfl) : FS ts g L m ((h.objs.size, o) :: N) (h.push o) := by
  refine ⟨S.ext.push o, S.ns.push o, S.above, fun p hp => ?_, ?_, S.tb⟩
  · rcases List.mem_cons.mp hp with rfl | hp
    · exact ⟨Heap.get?_push_size _ hf, Nat.ne_of_gt S.lt, .inl S.ext.size⟩
    · exact ⟨Heap.get?_push_of_some _ (S.news p hp).1, (S.news p hp).2⟩
  · exact List.pairwise_cons.mpr ⟨fun p hp => .inl (Nat.ne_of_gt (Heap.lt_size (S.news p hp).1)), S.nd⟩
theorem sub {N' : List (Addr × Obj)} (S : FS ts g L m N h) (hs : N'.Sublist N) : FS ts g L m N' h :=
  ⟨S.ext, S.ns, S.above, fun p hp => S.news p (hs.subset hp), S.nd.sublist hs, S.tb⟩
theorem tail {p : Addr × Obj} (S : FS ts g L m (p :: N) h) : FS ts g L m N h := S.sub (List.sublist_cons_self ..)
/-- one made object turned -/
theorem turn {pre post : List (Addr × Obj)} {o' : Obj} (S : FS ts g L m (pre ++ (a, o) :: post) h) (hs : Heap.SameBut a h h') (ho : h'.get? a = some o') (hc : NoCode o) : FS ts g L m (pre ++ (a, o') :: post) h' := by
  have A := S.news (a, o) (by simp)
  have hge : g.objs.size ≤ a := S.new (p := (a, o)) (by simp) hc
  have nd' := List.pairwise_append.mp S.nd
  have hpre : ∀ p ∈ pre, p.1 ≠ a := fun p hp => (nd'.2.2 p hp (a, o) (.head _)).elim id fun c => absurd c.2 hc.not
  have hpost : ∀ p ∈ post, p.1 ≠ a := fun p hp => ((List.pairwise_cons.mp nd'.2.1).1 p hp).elim Ne.symm fun c => absurd c.1 hc.not
  refine ⟨S.ext.but A.1 hc hge (S.offP hge) hs, S.ns.sameBut hs (Ne.symm A.2.1), S.above, fun p hp => ?_, List.pairwise_append.mpr ⟨nd'.1, List.pairwise_cons.mpr ⟨fun p hp => .inl (Ne.symm (hpost p hp)), (List.pairwise_cons.mp nd'.2.1).2⟩, fun p hp q hq => ?_⟩, S.tb⟩
  case refine_2 =>
    rcases List.mem_cons.mp hq with rfl | hq
    · exact .inl (hpre p hp)
    · exact nd'.2.2 p hp q (.tail _ hq)
  rcases List.mem_append.mp hp with q | q
  · exact ⟨(hs.2 p.1 (hpre p q)).trans (S.news p (List.mem_append_left _ q)).1, (S.news p (List.mem_append_left _ q)).2⟩
  · rcases List.mem_cons.mp q with rfl | q
    · exact ⟨ho, A.2.1, .inl hge⟩
    · exact ⟨(hs.2 p.1 (hpost p q)).trans (S.news p (List.mem_append_right _ (.tail _ q))).1, (S.news p (List.mem_append_right _ (.tail _ q))).2⟩
theorem led (S : FS ts g L m N h) : Led g N h := ⟨fun p hp => ⟨(S.news p hp).1, (S.news p hp).2.2⟩, S.nd⟩
theorem callN {F : List (Addr × Obj)} (S : FS ts g L m N h) (x : Ext ts h h') (l : Led h F h') : FS ts g L m (F ++ N) h' := by
  have S' := S.call x
  have hL : ∀ p ∈ F, p.1 ≠ L := fun p hp q => by
    rcases (l.1 p hp).2 with c | ⟨c1, vs, c2⟩
    · rw [q] at c; exact absurd (Nat.lt_of_lt_of_le S.lt c) (Nat.lt_irrefl _)
    · obtain ⟨oL, es, ep, e, hd, _⟩ := S'.ns
      have := (l.1 p hp).1
      rw [q, e] at this; cases this; rw [hd] at c2; cases c2
  refine ⟨S'.ext, S'.ns, S'.above, fun p hp => ?_, List.pairwise_append.mpr ⟨l.2, S.nd, fun p hp q hq => ?_⟩, S'.tb⟩
  · rcases List.mem_append.mp hp with hp | hp
    · exact ⟨(l.1 p hp).1, hL p hp, (l.1 p hp).2.imp (Nat.le_trans S.ext.size) id⟩
    · exact S'.news p hp
  · by_cases hpq : p.1 = q.1
    · rcases (l.1 p hp).2 with c | c
      · exact absurd (Nat.lt_of_lt_of_le (Heap.lt_size (S.news q hq).1) (hpq ▸ c)) (Nat.lt_irrefl _)
      · have e1 := (l.1 p hp).1
        have e2 := (S'.news q hq).1
        rw [hpq, e2] at e1
        exact .inr ⟨c, (Option.some.inj e1) ▸ c⟩
    · exact .inl hpq
theorem add (S : FS ts g L m N h) (e : h.get? a = some o) (hge : g.objs.size ≤ a) (hL : a ≠ L) (hap : ∀ p ∈ N, p.1 ≠ a) : FS ts g L m ((a, o) :: N) h :=
  ⟨S.ext, S.ns, S.above, fun p hp => by
    rcases List.mem_cons.mp hp with rfl | hp
    · exact ⟨e, hL, .inl hge⟩
    · exact S.news p hp, List.pairwise_cons.mpr ⟨fun p hp => .inl (Ne.symm (hap p hp)), S.nd⟩, S.tb⟩
theorem addC (S : FS ts g L m N h) (e : h.get? a = some o) (hc : IsCodeO o) : FS ts g L m ((a, o) :: N) h :=
  ⟨S.ext, S.ns, S.above, fun p hp => by
    rcases List.mem_cons.mp hp with rfl | hp
    · refine ⟨e, fun q => ?_, .inr hc⟩
      obtain ⟨oL, es, ep, e', hd, _⟩ := S.ns
      obtain ⟨_, vs, c2⟩ := hc
      dsimp only at q
      rw [q, e'] at e; cases e; rw [hd] at c2; cases c2
    · exact S.news p hp, List.pairwise_cons.mpr ⟨fun p hp => by
      by_cases hpq : a = p.1
      · have e2 := (S.news p hp).1
        rw [← hpq, e] at e2
        exact .inr ⟨hc, Option.some.inj e2 ▸ hc⟩
      · exact .inl hpq, S.nd⟩, S.tb⟩
theorem turn0 {post : List (Addr × Obj)} {o' : Obj} (S : FS ts g L m ((a, o) :: post) h) (hs : Heap.SameBut a h h') (ho : h'.get? a = some o') (hc : NoCode o) : FS ts g L m ((a, o') :: post) h' := turn (pre := []) S hs ho hc
end FS

/-! ## names: a list of them, a list of values -/

def amap (ns : List Str) (vs : List (Option Value)) : Str → Option Value := fun y => match ns, vs with
  | n :: ns, v :: vs => if y = n then v else amap ns vs y
  | _, _ => none
theorem amap_set : ∀ (ns : List Str) (vs : List (Option Value)) (i : Nat) (x : Str) (v : Value), ns.idxOf x = i → i < ns.length → ns.length = vs.length →
    (fun y => if y = x then some v else amap ns vs y) = amap ns (vs.set i (some v))
  | [], _, _, _, _, _, h, _ => absurd h (Nat.not_lt_zero _)
  | _ :: _, [], _, _, _, _, _, h => by simp at h
  | n :: ns, w :: vs, i, x, v, hi, hlt, hl => by
    funext y
    rw [List.idxOf_cons] at hi
    cases hb : n == x with
    | true =>
      have : n = x := eq_of_beq hb
      subst this
      simp only [BEq.rfl, cond_true] at hi
      subst hi
      simp only [List.set_cons_zero, amap]
      by_cases hy : y = n <;> simp [hy]
    | false =>
      have hne : n ≠ x := fun q => by simp [q] at hb
      simp only [hb, cond_false] at hi
      obtain ⟨j, rfl⟩ : ∃ j, i = j + 1 := ⟨i - 1, by omega⟩
      have hj : ns.idxOf x = j := by omega
      have ih := congrFun (amap_set ns vs j x v hj (by simpa using hlt) (by simpa using hl)) y
      simp only [List.set_cons_succ, amap]
      rw [← ih]
      by_cases hy : y = n
      · subst hy; simp [hne]
      · simp [hy]

section
variable {M : Model} {A : Around} {E : Value → Shared → Prop} {s : Shared} {env : Env} {ts : List TabI} {g : Heap} {m : Str → Option Value} {ns : List Str} {vs : List (Option Value)} {N : List (Addr × Obj)}

theorem ld {x : Str} {pos : Pos} {v : Value} {Q : Value → Shared → Prop} (S : FS ts g env.locals m N s.heap) (hk : env.scope.kind = .function) (hl : env.kindOf x = some .local) (hv : m x = some v) (h : Q v s)
    (hd : (x == ("__debug__" : Str)) = false := by decide) : wpAny M A (eval (.Name x pos) env) Q E s := wpAny_Name (wpAny_loadName_local hk hl S.ns hv h) hd
theorem ldn {x : Str} {v : Value} {Q : Value → Shared → Prop} (S : FS ts g env.locals m N s.heap) (hk : env.scope.kind = .function) (hl : env.kindOf x = some .local) (hv : m x = some v) (h : Q v s) :
    wpAny M A (loadName env x) Q E s := wpAny_loadName_local hk hl S.ns hv h
theorem st {x : Str} {v : Value} {i : Nat} {Q : Unit → Shared → Prop} (S : FS ts g env.locals (amap ns vs) N s.heap) (hk : env.scope.kind = .function) (hl : env.kindOf x = some .local)
    (hi : ns.idxOf x = i) (hlt : i < ns.length) (hlen : ns.length = vs.length)
    (h : ∀ h', FS ts g env.locals (amap ns (vs.set i (some v))) N h' → Q () { s with heap := h', toks := s.toks + 1 }) : wpAny M A (storeName env x v) Q E s :=
  wpAny_storeName_local hl S.ns (fun h' hn hs => h h' (amap_set ns vs i x v hi hlt hlen ▸ S.set hn hs)) (by rw [hk]; rfl)
end
end Mine
namespace Mine

def LPost (ts : List TabI) (g : Heap) (L : Addr) (ns : List Str) (K : List (Addr × Obj)) (J : List (Option Value) → List (Addr × Obj) → Prop) (s : Shared) (Q : Flow → Shared → Prop) (f : Flow) (s₂ : Shared) : Prop :=
  match f with
  | .ret v => Q (.ret v) s₂
  | .brk => Q .next s₂
  | _ => ∃ vs N h tk, s₂ = { s with heap := h, toks := tk } ∧ FS ts g L (amap ns vs) (N ++ K) h ∧ J vs N

section
variable {prog : Program} {w : World} {A : Around} {E : Value → Shared → Prop} {s : Shared} {env : Env} {ts : List TabI} {g : Heap} {ns : List Str} {vs : List (Option Value)} {N K₀ : List (Addr × Obj)} {x : Str} {px : Pos} {body : List Stmt} {Q : Flow → Shared → Prop}

theorem FS.but {h h' : Heap} {L I : Addr} {m : Str → Option Value} {o : Obj} {N₁ N₂ : List (Addr × Obj)} (S : FS ts g L m (N₁ ++ (I, o) :: N₂) h) (hc : NoCode o)
    (k : ∀ b ob, b ≠ I → h.get? b = some ob → h'.get? b = some ob) : FS ts g L m (N₁ ++ N₂) h' := by
  have A := S.news (I, o) (by simp)
  have hge : g.objs.size ≤ I := S.new (p := (I, o)) (by simp) hc
  have nd' := List.pairwise_append.mp S.nd
  have hpre : ∀ p ∈ N₁, p.1 ≠ I := fun p hp => (nd'.2.2 p hp (I, o) (.head _)).elim id fun c => absurd c.2 hc.not
  have hpost : ∀ p ∈ N₂, p.1 ≠ I := fun p hp => ((List.pairwise_cons.mp nd'.2.1).1 p hp).elim Ne.symm fun c => absurd c.1 hc.not
  have hns : h'.Ns L m := let ⟨oL, es, ep, e, r⟩ := S.ns; ⟨oL, es, ep, k _ _ (Ne.symm A.2.1) e, r⟩
  have hI : I ∉ tP ts := S.offP hge
  refine ⟨⟨fun b ob e n => k b ob (Nat.ne_of_lt (Nat.lt_of_lt_of_le (Heap.lt_size e) hge)) (S.ext.keep b ob e n), Nat.le_of_lt (Nat.lt_of_le_of_lt S.above hns.lt), fun _ => S.tabs.keeps fun b ob e c => k b ob ?_ e⟩, hns, S.above, fun p hp => ?_, ?_, S.tb⟩
  · rintro rfl
    rcases c with c | ⟨c1, vs, c2⟩
    · exact hI c
    · rw [A.1] at e; cases e
      rcases hc with hc | hc
      · exact hc c1
      · exact hc _ c2
  · rcases List.mem_append.mp hp with q | q
    · exact ⟨k _ _ (hpre p q) (S.news p (List.mem_append_left _ q)).1, (S.news p (List.mem_append_left _ q)).2⟩
    · exact ⟨k _ _ (hpost p q) (S.news p (List.mem_append_right _ (.tail _ q))).1, (S.news p (List.mem_append_right _ (.tail _ q))).2⟩
  · exact S.nd.sublist ((List.sublist_cons_self (I, o) N₂).append_left N₁)

/-- an iterator turned: it is the ledger's own again -/
theorem FS.next {h h' : Heap} {L I : Addr} {m : Str → Option Value} {o o' : Obj} {N₁ N₂ : List (Addr × Obj)} (S : FS ts g L m (N₁ ++ (I, o) :: N₂) h) (hc : NoCode o) (ho : h'.get? I = some o')
    (k : ∀ b ob, b ≠ I → h.get? b = some ob → h'.get? b = some ob) : FS ts g L m (N₁ ++ (I, o') :: N₂) h' := by
  have B := S.but hc k
  have hge : g.objs.size ≤ I := S.new (p := (I, o)) (by simp) hc
  have nd' := List.pairwise_append.mp S.nd
  have hpre : ∀ p ∈ N₁, p.1 ≠ I := fun p hp => (nd'.2.2 p hp (I, o) (.head _)).elim id fun c => absurd c.2 hc.not
  have hpost : ∀ p ∈ N₂, p.1 ≠ I := fun p hp => ((List.pairwise_cons.mp nd'.2.1).1 p hp).elim Ne.symm fun c => absurd c.1 hc.not
  refine ⟨B.ext, B.ns, B.above, fun p hp => ?_, List.pairwise_append.mpr ⟨nd'.1, List.pairwise_cons.mpr ⟨fun p hp => .inl (Ne.symm (hpost p hp)), (List.pairwise_cons.mp nd'.2.1).2⟩, fun p hp q hq => ?_⟩, B.tb⟩
  case refine_2 =>
    rcases List.mem_cons.mp hq with rfl | hq
    · exact .inl (hpre p hp)
    · exact nd'.2.2 p hp q (.tail _ hq)
  rcases List.mem_append.mp hp with q | q
  · exact B.news p (List.mem_append_left _ q)
  · rcases List.mem_cons.mp q with rfl | q
    · exact ⟨ho, (S.news (I, o) (by simp)).2.1, .inl hge⟩
    · exact B.news p (List.mem_append_right _ q)

/-- a loop over an iterator that walks: each turn by what holds of the names and of the ledger -/
theorem for_walks {I : Addr} {fp : List Addr} {n : Nat} {P : Nat → Value → Prop} {St : Nat → Heap → Prop} {ix : Nat}
    (W : Walks prog w A I fp [I] n P St) {oI : Obj}
    (hio : ∀ i h, St i h → ∃ o, h.get? I = some o ∧ NoCode o)
    (hfp : ∀ o i h h' m m' N N', FS ts g env.locals m (N ++ (I, o) :: K₀) h → FS ts g env.locals m' (N' ++ (I, o) :: K₀) h' → St i h → St i h')
    (hk : env.scope.kind = .function) (hx : env.kindOf x = some .local) (hi : ns.idxOf x = ix) (hlt : ix < ns.length)
    (S : FS ts g env.locals (amap ns vs) (N ++ (I, oI) :: K₀) s.heap) (hst : St 0 s.heap)
    (J : Nat → List (Option Value) → List (Addr × Obj) → Prop) (hlen : ∀ i vs N, J i vs N → ns.length = vs.length) (h0 : J 0 vs N)
    (step : ∀ i v vs₁ N₁ p h tk (E' : Value → Shared → Prop), i < n → P i v → J i vs₁ N₁ → FS ts g env.locals (amap ns (vs₁.set ix (some v))) (N₁ ++ p :: K₀) h →
      wpAny (model prog w) A (execs body env) (LPost ts g env.locals ns (p :: K₀) (J (i + 1)) s Q) E' { s with heap := h, toks := tk })
    (done : ∀ vs₁ N₁ h tk, J n vs₁ N₁ → FS ts g env.locals (amap ns vs₁) (N₁ ++ K₀) h → Q .next { s with heap := h, toks := tk }) :
    codeAny (model prog w) A (.forLoop (.Name x px) (.ref I) body [] env) (fun r s' => match r with | .ok f => Q f s' | .error e => cameBackBy (model prog w) A env E e s') s := by
  refine codeAny_forLoop_any (fun k s' => ∃ i vs₁ N₁ o h tk, s' = { s with heap := h, toks := tk } ∧ k = n - i ∧ i ≤ n ∧ J i vs₁ N₁ ∧ FS ts g env.locals (amap ns vs₁) (N₁ ++ (I, o) :: K₀) h ∧ St i h) ?_ n
    ⟨0, vs, N, oI, s.heap, s.toks, rfl, rfl, Nat.zero_le _, h0, S, hst⟩
  rintro k s' ⟨i, vs₁, N₁, o, h, tk, rfl, rfl, hin, hJ, S₁, hst₁⟩
  have hno : NoCode o := by
    obtain ⟨o', e, hc⟩ := hio i h hst₁
    have e2 := (S₁.news (I, o) (by simp)).1
    rw [e] at e2; cases e2; exact hc
  by_cases hlt' : i < n
  · refine W.item i _ _ _ hlt' hst₁ fun v h' tk' hP hst' hkp => ?_
    obtain ⟨o', ho', hno'⟩ := hio _ _ hst'
    have S₂ := S₁.next hno ho' (fun b ob hb e => hkp b ob (by simpa using hb) e)
    refine wpAny_pure ?_
    refine wpAny_assign_Name (wpAny_storeName_local hx S₂.ns (fun h₂ hn hs => ?_) (by rw [hk]; rfl))
    have S₃ := amap_set ns vs₁ ix x v hi hlt (hlen _ _ _ hJ) ▸ S₂.set hn hs
    have hst₃ : St (i + 1) h₂ := hfp _ _ _ _ _ _ _ _ S₂ S₃ hst'
    refine wpAny_mono (step i v vs₁ N₁ (I, o') h₂ (tk' + 1) _ hlt' hP hJ S₃) (fun f s₃ hf => ?_) fun _ _ e => e
    have fin : (∃ vs N h tk, s₃ = { s with heap := h, toks := tk } ∧ FS ts g env.locals (amap ns vs) (N ++ (I, o') :: K₀) h ∧ J (i + 1) vs N) → ∃ m, m < n - i ∧ ∃ i vs₁ N₁ o h tk, s₃ = { s with heap := h, toks := tk } ∧ m = n - i ∧ i ≤ n ∧ J i vs₁ N₁ ∧ FS ts g env.locals (amap ns vs₁) (N₁ ++ (I, o) :: K₀) h ∧ St i h := by
      rintro ⟨vs₄, N₄, h₄, tk₄, rfl, S₄, hJ₄⟩
      exact ⟨n - (i + 1), by omega, i + 1, vs₄, N₄, o', h₄, tk₄, rfl, rfl, hlt', hJ₄, S₄, hfp _ _ _ _ _ _ _ _ S₃ S₄ hst₃⟩
    cases f with
    | ret v => exact hf
    | brk => exact hf
    | next => exact fin hf
    | cont => exact fin hf
  · obtain rfl : i = n := by omega
    refine W.done _ _ _ hst₁ fun h' tk' hkp => ?_
    exact wpAny_execs_nil (done vs₁ N₁ h' tk' hJ (S₁.but hno fun b ob hb e => hkp b ob (by simpa using hb) e))

theorem FS.perm {h : Heap} {L : Addr} {m : Str → Option Value} {N N' : List (Addr × Obj)} (S : FS ts g L m N h) (hp : N.Perm N') : FS ts g L m N' h :=
  ⟨S.ext, S.ns, S.above, fun p hq => S.news p (hp.mem_iff.mpr hq), (hp.pairwise_iff fun h => h.symm).mp S.nd, S.tb⟩
theorem FS.pushMid {h : Heap} {L : Addr} {m : Str → Option Value} {N N' : List (Addr × Obj)} (S : FS ts g L m (N ++ N') h) (o : Obj) (hf : o.isFreed = false := by rfl) :
    FS ts g L m (N ++ (h.objs.size, o) :: N') (h.push o) := (S.push o hf).perm List.perm_middle.symm

theorem noCode_cls {o : Obj} {T : String} (h : o.cls = .type T) (hT : T ≠ "code" := by decide) : NoCode o := .inl fun q => by rw [h] at q; exact hT (Value.type.inj q)

theorem range_for {r : Addr} {a b : Int} {t u v : Tok} {ix : Nat} {n : Nat} (hh : A.handled = none) (hr : IsRange s.heap r a b 1 t u v)
    (ha : -(2 ^ 62) ≤ a) (ha' : a < 2 ^ 62) (hb : -(2 ^ 62) ≤ b) (hb' : b < 2 ^ 62) (hn : (n : Int) = if a < b then b - a else 0)
    (hk : env.scope.kind = .function) (hx : env.kindOf x = some .local) (hi : ns.idxOf x = ix) (hlt : ix < ns.length)
    (S : FS ts g env.locals (amap ns vs) (N ++ K₀) s.heap)
    (J : Nat → List (Option Value) → List (Addr × Obj) → Prop) (hlen : ∀ i vs N, J i vs N → ns.length = vs.length) (h0 : J 0 vs N)
    (step : ∀ i tv vs₁ N₁ p h tk (E' : Value → Shared → Prop), i < n → J i vs₁ N₁ → FS ts g env.locals (amap ns (vs₁.set ix (some (.int (a + i) tv)))) (N₁ ++ p :: K₀) h →
      wpAny (model prog w) A (execs body env) (LPost ts g env.locals ns (p :: K₀) (J (i + 1)) s Q) E' { s with heap := h, toks := tk })
    (done : ∀ vs₁ N₁ h tk, J n vs₁ N₁ → FS ts g env.locals (amap ns vs₁) (N₁ ++ K₀) h → Q .next { s with heap := h, toks := tk }) :
    wpAny (model prog w) A (pyIter (.ref r)) (fun it s₂ => codeAny (model prog w) A (.forLoop (.Name x px) it body [] env) (fun r s' => match r with | .ok f => Q f s' | .error e => cameBackBy (model prog w) A env E e s') s₂) E s := by
  have hz : Builtin.Range.rangeSize a b 1 = (n : Int) := by
    rw [hn]; exact rangeSize_one a b
  refine wpAny_pyIter_range hr (small_one ha ha' hb hb') ?_
  rw [hz]
  have S₁ := S.pushMid { cls := .type "range_iterator", data := .fields #[rawInt a, rawInt (n : Int), rawInt 1] }
  refine for_walks (s := { s with heap := s.heap.push _ }) (Walks.range hh s.heap.objs.size a 1 n) (fun i h e => ⟨_, e, noCode_cls rfl⟩) (fun o i h h' m m' N N' S S' e => ?_) hk hx hi hlt S₁ ?_ J hlen h0
    (fun i v vs₁ N₁ p h tk E' hin hP hJ S' => ?_) done
  · have e1 := (S.news (s.heap.objs.size, o) (by simp)).1
    have e2 := (S'.news (s.heap.objs.size, o) (by simp)).1
    exact e2.trans (e1.symm.trans e)
  · have := (S₁.news (s.heap.objs.size, _) (List.mem_append_right _ (.head _))).1
    simpa [IsRangeIter] using this
  · obtain ⟨tv, rfl⟩ := hP
    rw [Int.mul_one] at S'
    exact step i tv vs₁ N₁ p h tk E' hin hJ S'

theorem list_for {l : Addr} {items : Array Value} {ix : Nat} (hh : A.handled = none)
    (hl : ∀ h m N', FS ts g env.locals m (N' ++ K₀) h → h.IsList l items)
    (hk : env.scope.kind = .function) (hx : env.kindOf x = some .local) (hi : ns.idxOf x = ix) (hlt : ix < ns.length)
    (S : FS ts g env.locals (amap ns vs) (N ++ K₀) s.heap)
    (J : Nat → List (Option Value) → List (Addr × Obj) → Prop) (hlen : ∀ i vs N, J i vs N → ns.length = vs.length) (h0 : J 0 vs N)
    (step : ∀ i v vs₁ N₁ p h tk (E' : Value → Shared → Prop), i < items.size → items[i]? = some v → J i vs₁ N₁ → FS ts g env.locals (amap ns (vs₁.set ix (some v))) (N₁ ++ p :: K₀) h →
      wpAny (model prog w) A (execs body env) (LPost ts g env.locals ns (p :: K₀) (J (i + 1)) s Q) E' { s with heap := h, toks := tk })
    (done : ∀ vs₁ N₁ h tk, J items.size vs₁ N₁ → FS ts g env.locals (amap ns vs₁) (N₁ ++ K₀) h → Q .next { s with heap := h, toks := tk }) :
    wpAny (model prog w) A (pyIter (.ref l)) (fun it s₂ => codeAny (model prog w) A (.forLoop (.Name x px) it body [] env) (fun r s' => match r with | .ok f => Q f s' | .error e => cameBackBy (model prog w) A env E e s') s₂) E s := by
  have hL := hl _ _ _ S
  refine wpAny_pyIter_list hL ?_
  have hne : l ≠ s.heap.objs.size := by obtain ⟨o, ho, _⟩ := hL; exact Nat.ne_of_lt (Heap.lt_size ho)
  have S₁ := S.pushMid { cls := .type "list_iterator", data := .fields #[.ref l, .int 0 0] }
  refine for_walks (s := { s with heap := s.heap.push _ }) (Walks.list hh s.heap.objs.size l hne items) (fun i h e => let ⟨o, ho, hc, _⟩ := e.1; ⟨o, ho, noCode_cls hc⟩) (fun o i h h' m m' N N' S S' e => ?_) hk hx hi hlt S₁ ?_ J hlen h0
    (fun i v vs₁ N₁ p h tk E' hin hP hJ S' => step i v vs₁ N₁ p h tk E' hin hP hJ S') done
  · refine ⟨?_, hl _ _ (N' ++ [(s.heap.objs.size, o)]) (by simpa using S')⟩
    have e1 := (S.news (s.heap.objs.size, o) (by simp)).1
    have e2 := (S'.news (s.heap.objs.size, o) (by simp)).1
    obtain ⟨o', ho', r⟩ := e.1
    exact ⟨o', e2.trans (e1.symm.trans ho'), r⟩
  · exact ⟨⟨_, (S₁.news (s.heap.objs.size, _) (List.mem_append_right _ (.head _))).1, rfl, rfl⟩, hL.push _⟩

theorem tuple_for {l : Addr} {items : Array Value} {ix : Nat} (hh : A.handled = none)
    (hl : ∀ h m N', FS ts g env.locals m (N' ++ K₀) h → h.IsTuple l items)
    (hk : env.scope.kind = .function) (hx : env.kindOf x = some .local) (hi : ns.idxOf x = ix) (hlt : ix < ns.length)
    (S : FS ts g env.locals (amap ns vs) (N ++ K₀) s.heap)
    (J : Nat → List (Option Value) → List (Addr × Obj) → Prop) (hlen : ∀ i vs N, J i vs N → ns.length = vs.length) (h0 : J 0 vs N)
    (step : ∀ i v vs₁ N₁ p h tk (E' : Value → Shared → Prop), i < items.size → items[i]? = some v → J i vs₁ N₁ → FS ts g env.locals (amap ns (vs₁.set ix (some v))) (N₁ ++ p :: K₀) h →
      wpAny (model prog w) A (execs body env) (LPost ts g env.locals ns (p :: K₀) (J (i + 1)) s Q) E' { s with heap := h, toks := tk })
    (done : ∀ vs₁ N₁ h tk, J items.size vs₁ N₁ → FS ts g env.locals (amap ns vs₁) (N₁ ++ K₀) h → Q .next { s with heap := h, toks := tk }) :
    wpAny (model prog w) A (pyIter (.ref l)) (fun it s₂ => codeAny (model prog w) A (.forLoop (.Name x px) it body [] env) (fun r s' => match r with | .ok f => Q f s' | .error e => cameBackBy (model prog w) A env E e s') s₂) E s := by
  have hL := hl _ _ _ S
  refine wpAny_pyIter_tuple hL ?_
  have hne : l ≠ s.heap.objs.size := by obtain ⟨o, ho, _⟩ := hL; exact Nat.ne_of_lt (Heap.lt_size ho)
  have S₁ := S.pushMid { cls := .type "tuple_iterator", data := .fields #[.ref l, .int 0 0] }
  refine for_walks (s := { s with heap := s.heap.push _ }) (Walks.tuple hh s.heap.objs.size l hne items) (fun i h e => let ⟨o, ho, hc, _⟩ := e.1; ⟨o, ho, noCode_cls hc⟩) (fun o i h h' m m' N N' S S' e => ?_) hk hx hi hlt S₁ ?_ J hlen h0
    (fun i v vs₁ N₁ p h tk E' hin hP hJ S' => step i v vs₁ N₁ p h tk E' hin hP hJ S') done
  · refine ⟨?_, hl _ _ (N' ++ [(s.heap.objs.size, o)]) (by simpa using S')⟩
    have e1 := (S.news (s.heap.objs.size, o) (by simp)).1
    have e2 := (S'.news (s.heap.objs.size, o) (by simp)).1
    obtain ⟨o', ho', r⟩ := e.1
    exact ⟨o', e2.trans (e1.symm.trans ho'), r⟩
  · refine ⟨⟨_, (S₁.news (s.heap.objs.size, _) (List.mem_append_right _ (.head _))).1, rfl, rfl⟩, hL.at fun o e => Heap.get?_push_of_some _ e⟩
end
end Mine
namespace Mine

structure EnvOk (env : Env) (kinds : List (Str × NameKind)) (cells : List (Str × Addr)) (qual : Str) (code : Value) : Prop where
  kind : env.scope.kind = .function
  names : env.scope.names = kinds
  cells : env.cells = cells
  globals : env.globals = mainGlobals
  builtins : env.builtins = builtinsNs
  qual : env.qual = qual
  code : env.code = code

theorem EnvOk.kindOf {env : Env} {kinds cells qual code} (e : EnvOk env kinds cells qual code) {x : Str} {k : NameKind} (h : kinds.lookup x = some k) : env.kindOf x = some k := by
  unfold Env.kindOf; rw [e.names]; exact h

structure AOk (A : Around) (k : Nat) : Prop where
  handled : A.handled = none
  depth : A.depth + k < recursionLimit
theorem AOk.deeper {A : Around} {k : Nat} {env : Env} (a : AOk A (k + 1)) : AOk (A.deeper env) k := ⟨a.handled, by have := a.depth; show A.depth + 1 + k < recursionLimit; omega⟩
theorem AOk.room {A : Around} {k : Nat} (a : AOk A k) : A.depth < recursionLimit := by have := a.depth; omega
theorem AOk.less {A : Around} {k j : Nat} (a : AOk A k) (h : j ≤ k) : AOk A j := ⟨a.handled, by have := a.depth; omega⟩
theorem AOk.in1 {A : Around} {k : Nat} (a : AOk A k) : AOk A.in1 k := ⟨a.handled, a.depth⟩

/-- what every heap of the call holds: the top's objects; the names of the module and the built-in ones -/
structure Gd (gh : Heap) (mg mb : Str → Option Value) : Prop where
  g : gh.Ns mainGlobals mg
  b : gh.Ns builtinsNs mb
  lim : gh.NoLimit
  len0 : mg "len" = none
  len1 : mb "len" = some (.builtin "len")
  range0 : mg "range" = none
  range1 : mb "range" = some (.type "range")
  list0 : mg "list" = none
  list1 : mb "list" = some (.type "list")
  bmain : ∃ bm ob, mg "__builtins__" = some (.ref bm) ∧ bm ≠ builtinsNs ∧ gh.get? bm = some ob ∧ ob.cls = .type "module" ∧ ob.dict = some builtinsNs ∧ ob.data = .plain
/-- the ground's objects stand -/
structure Bg (gh : Heap) (ts : List TabI) (h : Heap) : Prop where
  st : ∀ b o, gh.get? b = some o → h.get? b = some o
  off : ∀ p ∈ tP ts, gh.get? p = none
  tb : Tabs ts h
theorem Bg.ext {gh h h' : Heap} {ts : List TabI} (B : Bg gh ts h) (x : Ext ts h h') : Bg gh ts h' :=
  ⟨fun b o e => x.keep b o (B.st b o e) (fun hp => by rw [B.off b hp] at e; cases e), B.off, x.tabs B.tb⟩
theorem FS.bg {gh g h : Heap} {ts : List TabI} {L : Addr} {m : Str → Option Value} {N : List (Addr × Obj)} (S : FS ts g L m N h) (B : Bg gh ts g) : Bg gh ts h := B.ext S.ext

theorem bind_amap (binds : List (Str × Value)) : (fun x => binds.reverse.lookup x) = amap (binds.reverse.map (·.1)) (binds.reverse.map fun p => some p.2) := by
  generalize binds.reverse = l
  funext x
  induction l with
  | nil => rfl
  | cons p r ih =>
    obtain ⟨n, v⟩ := p
    simp only [List.map_cons, amap, List.lookup_cons]
    by_cases h : x = n
    · subst h; simp
    · have hb : (x == n) = false := beq_eq_false_iff_ne.mpr h
      simp only [hb, h, if_false]; exact ih

theorem amap_pad {ns : List Str} {vs : List (Option Value)} : ∀ (ks : List Str), ns.length = vs.length → amap ns vs = amap (ns ++ ks) (vs ++ ks.map fun _ => none) := by
  intro ks hl
  funext y
  induction ns generalizing vs with
  | nil =>
    cases vs with
    | nil =>
      simp only [List.nil_append]
      induction ks with
      | nil => rfl
      | cons k ks ih =>
        simp only [List.map_cons, amap]
        by_cases h : y = k
        · simp [h, amap]
        · simp only [h, if_false]; rw [← ih]; rfl
    | cons => simp at hl
  | cons n ns ih =>
    cases vs with
    | nil => simp at hl
    | cons v vs =>
      simp only [List.cons_append, amap]
      by_cases h : y = n
      · simp [h]
      · simp only [h, if_false]; exact ih (by simpa using hl)

section
variable {prog : Program} {w : World} {A : Around} {E : Value → Shared → Prop} {s : Shared} {gh : Heap} {ts : List TabI} {mg mb : Str → Option Value}

/-- a def without cells of its own is entered -/
theorem enter {R : Result → Shared → Prop} {a : Addr} {o : Obj} {fd : FuncData} {body : List Stmt} {args : Args} {binds : List (Str × Value)} {ks : List Str} {k : Nat}
    (B : Bg gh ts s.heap) (G : Gd gh mg mb) (hA : AOk A (k + 1)) (ho : s.heap.get? a = some o) (hdata : o.data = .func fd) (hcd : s.heap.CodeRec fd.code fd.qualname)
    (hbody : fd.body = .stmts body) (hbind : BindsTo s fd args binds)
    (hg : fd.globals = mainGlobals) (hb : fd.builtins = builtinsNs)
    (hcell : (fd.scope.names.all fun x => x.2 != .cell) = true) (hloc : (binds.all fun x => fd.scope.names.lookup x.1 == some .local) = true)
    (h : ∀ env A' h₁ (E' : Value → Shared → Prop), EnvOk env fd.scope.names fd.closure (fd.qualname ++ ".<locals>.") fd.code → AOk A' k →
      FS ts s.heap env.locals (amap (binds.reverse.map (·.1) ++ ks) ((binds.reverse.map fun p => some p.2) ++ ks.map fun _ => none)) [] h₁ →
      wpAny (model prog w) A' (execs body env) (fun f s' => R (.ok (.ret (match f with | .ret v => v | _ => .none))) s') E' { s with heap := h₁, toks := s.toks + binds.length })
    (hco : fd.scope.isCoroutine = false := by rfl) (hgen : fd.scope.isGenerator = false := by rfl) (hk : fd.scope.kind = .function := by rfl) :
    codeAny (model prog w) A (.call (.ref a) args) R s := by
  refine codeAny_call_def hA.room ho hdata (G.lim.keeps B.st) hcd hbody hbind (fun x hx => by simpa using List.all_eq_true.mp hcell x hx) (fun x hx => by simpa using List.all_eq_true.mp hloc x hx) (fun h₀ hns hkp => ?_) hco hgen hk
  refine h (callEnv fd s.heap.objs.size a) (A.deeper _) h₀ _ ⟨hk, rfl, rfl, hg, hb, rfl, rfl⟩ hA.deeper ?_
  have hns' : h₀.Ns s.heap.objs.size (amap (binds.reverse.map (·.1) ++ ks) ((binds.reverse.map fun p => some p.2) ++ ks.map fun _ => none)) := by
    rw [← amap_pad ks (by simp), ← bind_amap]; exact hns
  show FS ts s.heap s.heap.objs.size _ [] h₀
  exact ⟨Ext.stays hkp (Nat.le_of_lt hns.lt), hns', Nat.le_refl _, (fun p hp => by cases hp), List.Pairwise.nil, B.tb⟩

variable {env : Env} {kinds : List (Str × NameKind)} {cells : List (Str × Addr)} {qual : Str} {code : Value} {g : Heap} {N : List (Addr × Obj)} {ns : List Str} {vs : List (Option Value)}

theorem eLd {M : Model} {x : Str} {pos : Pos} {v : Value} {Q : Value → Shared → Prop} (e : EnvOk env kinds cells qual code) (S : FS ts g env.locals (amap ns vs) N s.heap) (hl : kinds.lookup x = some .local) (hv : amap ns vs x = some v) (h : Q v s)
    (hd : (x == ("__debug__" : Str)) = false := by decide) : wpAny M A (eval (.Name x pos) env) Q E s := ld S e.kind (e.kindOf hl) hv h hd
theorem eLdn {M : Model} {x : Str} {v : Value} {Q : Value → Shared → Prop} (e : EnvOk env kinds cells qual code) (S : FS ts g env.locals (amap ns vs) N s.heap) (hl : kinds.lookup x = some .local) (hv : amap ns vs x = some v) (h : Q v s) :
    wpAny M A (loadName env x) Q E s := ldn S e.kind (e.kindOf hl) hv h
theorem eSt {M : Model} {x : Str} {v : Value} {i : Nat} {Q : Unit → Shared → Prop} (e : EnvOk env kinds cells qual code) (S : FS ts g env.locals (amap ns vs) N s.heap) (hl : kinds.lookup x = some .local)
    (hi : ns.idxOf x = i) (hlt : i < ns.length) (hlen : ns.length = vs.length)
    (h : ∀ h', FS ts g env.locals (amap ns (vs.set i (some v))) N h' → Q () { s with heap := h', toks := s.toks + 1 }) : wpAny M A (storeName env x v) Q E s :=
  st S e.kind (e.kindOf hl) hi hlt hlen h
/-- a name of the module -/
theorem eGlob {M : Model} {x : Str} {pos : Pos} {v : Value} {Q : Value → Shared → Prop} (e : EnvOk env kinds cells qual code) (B : Bg gh ts s.heap) (G : Gd gh mg mb) (hl : kinds.lookup x = some .globalImplicit) (hv : mg x = some v) (h : Q v s)
    (hd : (x == ("__debug__" : Str)) = false := by decide) : wpAny M A (eval (.Name x pos) env) Q E s :=
  Calls.Name_function_global e.kind (e.kindOf hl) (Calls.loadGlobal_global (e.globals ▸ G.g.keeps B.st) hv h) hd
theorem eBuiltin {M : Model} {x : Str} {pos : Pos} {v : Value} {Q : Value → Shared → Prop} (e : EnvOk env kinds cells qual code) (B : Bg gh ts s.heap) (G : Gd gh mg mb) (hl : kinds.lookup x = some .globalImplicit) (hm : mg x = none) (hv : mb x = some v) (h : Q v s)
    (hd : (x == ("__debug__" : Str)) = false := by decide) : wpAny M A (eval (.Name x pos) env) Q E s :=
  Calls.Name_function_global e.kind (e.kindOf hl) (Calls.loadGlobal_builtin (e.globals ▸ G.g.keeps B.st) hm (e.builtins ▸ G.b.keeps B.st) hv h) hd
/-- a name that the def's closure keeps -/
theorem eFree {M : Model} {x : Str} {pos : Pos} {v : Value} {c : Addr} {Q : Value → Shared → Prop} (e : EnvOk env kinds cells qual code) (hl : kinds.lookup x = some .free) (hc : cells.lookup x = some c) (hv : s.heap.IsCell c (some v)) (h : Q v s)
    (hd : (x == ("__debug__" : Str)) = false := by decide) (hn : (x == ("__classdict__" : Str)) = false := by decide) : wpAny M A (eval (.Name x pos) env) Q E s :=
  wpAny_Name (wpAny_loadName_free e.kind (e.kindOf hl) (e.cells ▸ hc) hv h hn) hd
end
end Mine
namespace Mine
open Builtin Builtin.Str

theorem FS.keepAll {ts : List TabI} {g h h' : Heap} {L : Addr} {m : Str → Option Value} {N : List (Addr × Obj)} (S : FS ts g L m N h) (k : ∀ b o, h.get? b = some o → h'.get? b = some o) : FS ts g L m N h' := by
  have hns : h'.Ns L m := S.ns.keeps k
  exact ⟨⟨fun b o e n => k b o (S.ext.keep b o e n), Nat.le_of_lt (Nat.lt_of_le_of_lt S.above hns.lt), fun _ => S.tabs.keeps fun b o e _ => k b o e⟩, hns, S.above, fun p hp => ⟨k _ _ (S.news p hp).1, (S.news p hp).2⟩, S.nd, S.tb⟩
theorem FS.push0 {ts : List TabI} {g h : Heap} {L : Addr} {m : Str → Option Value} {N : List (Addr × Obj)} (S : FS ts g L m N h) (o : Obj) : FS ts g L m N (h.push o) := S.keepAll fun _ _ e => Heap.get?_push_of_some _ e
theorem FS.extNew {ts : List TabI} {g h h' : Heap} {L : Addr} {m : Str → Option Value} {N : List (Addr × Obj)} (S : FS ts g L m N h) (k : Heap.ExtBut h.objs.size h h') : FS ts g L m N h' :=
  S.keepAll fun b o e => k b o (Nat.ne_of_lt (Heap.lt_size e)) e

/-- a list as it is made -/
abbrev lst (vs : List Value) (n : Nat) : Obj := { cls := .type "list", data := .seq vs.toArray n }
abbrev tpl (vs : List Value) (n : Nat) : Obj := { cls := .type "tuple", data := .seq vs.toArray n }

section
variable {prog : Program} {w : World} {A : Around} {E : Value → Shared → Prop} {s : Shared} {ts : List TabI} {g : Heap} {L : Addr} {m : Str → Option Value} {N : List (Addr × Obj)} {x y : Str} {t u : Tok} {Q : Value → Shared → Prop}

theorem split_new (hy : (y.length == 0) = false) (hsz : x.length + 2 ≤ sizeLine)
    (h : ∀ l k, l.map (·.1) = Txt.split x y → Q (.ref s.heap.objs.size) { s with heap := s.heap.push (lst (strValues l) 0), toks := k }) :
    wpAny (model prog w) A (call (.builtin "str.split") [.str x t, .str y u]) Q E s := by
  have hn : (partsBetween x (occurrences x y 0 x.length (x.length + 1)) y.length).length ≤ sizeLine := by
    have e1 := StrLaws.occ_length_le x y 0 x.length (x.length + 1)
    rw [length_partsBetween]; omega
  cases h1 : (decide (x.length < y.length) || decide (strKind x < strKind y))
  · cases hf : (occurrences x y 0 x.length (x.length + 1)).isEmpty
    · refine call_meets F.slot_str_split (typeIs_str _ _ _) F.entry_str_split (F.args_str_split_2 _ _) (meets_str_split_sep x y t u h1 hy hf (by omega) hn) ?_
      show wants Q E _ { s with toks := _, heap := s.heap.push { cls := .type "list", data := .seq (strsFrom s.toks (partsBetween x (occurrences x y 0 x.length (x.length + 1)) y.length)).toArray } }
      rw [strsFrom_eq]
      exact h (numbered s.toks _) _ ((numbered_texts _ _).trans ((if_neg (ne_true_of_eq_false h1)).trans (if_neg (ne_true_of_eq_false hf))).symm)
    · exact call_meets F.slot_str_split (typeIs_str _ _ _) F.entry_str_split (F.args_str_split_2 _ _) (meets_str_split_not_found x y t u h1 hy hf)
        (h [(x, t)] s.toks ((if_neg (ne_true_of_eq_false h1)).trans (if_pos hf)).symm)
  · exact call_meets F.slot_str_split (typeIs_str _ _ _) F.entry_str_split (F.args_str_split_2 _ _) (meets_str_split_cannot_occur x y t u h1)
      (h [(x, t)] s.toks (if_pos h1).symm)

/-- find with both its bounds -/
def find4 (x y : Str) (i j : Int) : Int := match occurrences x y (fromIndex x.length i) (min (fromIndex x.length j) x.length) 1 with | k :: _ => (k : Int) | [] => -1
theorem gives_find4 (x y : Str) (i j : Int) (t u v z : Tok) : Gives («str.find» ⟨[.str x t, .str y u, .int i v, .int j z], []⟩) (.int (find4 x y i j)) := by
  unfold find4
  show Gives (match occurrences x y (fromIndex x.length i) (min (fromIndex x.length j) x.length) 1 with | k :: _ => retInt k | [] => (do rule "str.find.not-found"; retInt (-1))) _
  cases occurrences x y (fromIndex x.length i) (min (fromIndex x.length j) x.length) 1 with
  | nil => exact .rule (.of_eq rfl)
  | cons k r => exact .of_eq rfl
theorem find4_call {i j : Int} {v z : Tok} (hq : Q (.int (find4 x y i j) s.toks) { s with toks := s.toks + 1 }) : wpAny (model prog w) A (call (.builtin "str.find") [.str x t, .str y u, .int i v, .int j z]) Q E s :=
  call_gives F.slot_str_find (typeIs_str _ _ _) F.entry_str_find (F.args_str_find_4 _ _ _ _) (gives_find4 x y i j t u v z) hq

/-- an item of a list that stands -/
theorem isList_lst {h : Heap} {a : Addr} {vs : List Value} {n : Nat} (e : h.get? a = some (lst vs n)) : h.IsList a vs.toArray := ⟨_, e, rfl, n, rfl⟩
theorem isTup_tpl {h : Heap} {a : Addr} {vs : List Value} {n : Nat} (e : h.get? a = some (tpl vs n)) : IsTup h a vs.toArray := ⟨_, e, rfl, n, rfl⟩

theorem del_item {a : Addr} {vs : List Value} {n : Nat} {i : Int} {k : Nat} {Q : Unit → Shared → Prop} {pre post : List (Addr × Obj)} (S : FS ts g L m (pre ++ (a, lst vs n) :: post) s.heap)
    (hfit : Builtin.List.listFitsIndex i = true) (hk : seqIndex? i vs.length = some k)
    (h : ∀ h' n', FS ts g L m (pre ++ (a, lst (vs.eraseIdx k) n') :: post) h' → Q () { s with heap := h' }) (hsz : vs.length ≤ sizeLine := by size_fits) :
    wpAny (model prog w) A (delItem (.ref a) (.int i u)) Q E s := by
  have ho := (S.news (a, lst vs n) (by simp)).1
  refine wpAny_delItem_plain (items := vs.toArray) ⟨n, ho⟩ hfit (by simpa using hk) (fun h' hp hs => ?_) (by simpa using hsz)
  obtain ⟨n', e⟩ := hp
  refine h h' n' (S.turn hs ?_ (noCode_cls rfl))
  have : vs.toArray.eraseIdxIfInBounds k = (vs.eraseIdx k).toArray := by simp
  rw [this] at e; exact e
end
end Mine
namespace Mine

section
variable {env : Env} {kinds : List (Str × NameKind)} {cells : List (Str × Addr)} {qual : Str} {code : Value}

theorem swapped2 {a b : Str} {p q tp vp : Pos} {k k2 : Nat} {v1 v2 : Expr} (e : EnvOk env kinds cells qual code) (h1 : kinds.lookup a = some .local) (h2 : kinds.lookup b = some .local) (hl : (q.line == p.line) = true) (hab : (b == a) = false)
    (hst : ([v1, v2].any fun | .Starred .. => true | _ => false) = false) (hf : ([v1, v2].all (foldedForSure 8)) = false) (hc : ([v1, v2].all (constantsAlone 8)) = false) :
    swappedStores [.Tuple [.Name a p, .Name b q] k tp] (.Tuple [v1, v2] k2 vp) env = pure (some [a, b]) := by
  have hb : (env.blockKind != .function) = false := by unfold Env.blockKind; rw [e.kind]; rfl
  have k1 := e.kindOf h1
  have k2 := e.kindOf h2
  unfold swappedStores
  simp only [List.length_cons, List.length_nil, hb, hst, hf, hc]
  have hp : Expr.pos (.Name a p) = p := rfl
  simp only [List.head?_cons, Option.map_some, Option.getD_some, hp, List.filterMap_cons, k1, k2, hl, BEq.rfl, Bool.and_self, if_true, List.filterMap_nil, List.length_cons, List.length_nil]
  have hd : ([a, b] : List Str).eraseDups = [a, b] := by
    simp [List.eraseDups_cons, hab]
  rw [hd]
  refine (if_neg (by decide)).trans ?_
  refine (if_neg (fun h => absurd (hst.symm.trans h) Bool.false_ne_true)).trans ?_
  rfl
end

section
variable {prog : Program} {w : World} {A : Around} {E : Value → Shared → Prop} {s : Shared} {ts : List TabI} {g : Heap} {L : Addr} {m : Str → Option Value} {N : List (Addr × Obj)} {env : Env}
theorem newTuple_FS {vs : List Value} {Q : Value → Shared → Prop} (S : FS ts g L m N s.heap) (h : FS ts g L m ((s.heap.objs.size, tpl vs 0) :: N) (s.heap.push (tpl vs 0)) → Q (.ref s.heap.objs.size) { s with heap := s.heap.push (tpl vs 0) }) (hsz : vs.length ≤ sizeLine := by size_fits) :
    wpAny (model prog w) A (newTuple vs) Q E s := wpAny_newObj_type (h (S.push _)) (by show vs.toArray.size ≤ sizeLine; rw [List.size_toArray]; exact hsz)
theorem newList_FS {vs : List Value} {Q : Value → Shared → Prop} (S : FS ts g L m N s.heap) (h : FS ts g L m ((s.heap.objs.size, lst vs 0) :: N) (s.heap.push (lst vs 0)) → Q (.ref s.heap.objs.size) { s with heap := s.heap.push (lst vs 0) }) (hsz : vs.length ≤ sizeLine := by size_fits) :
    wpAny (model prog w) A (newList vs) Q E s := wpAny_newObj_type (h (S.push _)) (by show vs.toArray.size ≤ sizeLine; rw [List.size_toArray]; exact hsz)

/-- two names from a pair that was just made (its stores go from behind) -/
theorem unpack_FS {t : Addr} {items : Array Value} {Q : List Value → Shared → Prop} {n : Nat} (S : FS ts g L m N s.heap) (hh : A.handled = none) (ht : IsTup s.heap t items) (hn : items.size = n)
    (h : ∀ h', FS ts g L m N h' → Q items.toList { s with heap := h' }) : wpAny (model prog w) A (unpackItems (.ref t) n none) Q E s := by
  subst hn
  exact unpackItems_tuple hh ht fun h' hx => h h' (S.extNew hx)
theorem assign_cons {f : Value → Sem Unit} {fs : List (Value → Sem Unit)} {x : Value} {xs : List Value} {Q : Unit → Shared → Prop} (h : wpAny (model prog w) A (f x) (fun _ s₁ => wpAny (model prog w) A (assignInOrder fs xs) Q E s₁) E s) :
    wpAny (model prog w) A (assignInOrder (f :: fs) (x :: xs)) Q E s := by
  show wpAny _ _ (do holding xs (f x); assignInOrder fs xs) _ _ _
  exact wpAny_bind (wpAny_holding h)

/-- a statement, what holds behind it, the rest -/
theorem cut_next {M : Model} {st : Stmt} {rest : List Stmt} {Q : Flow → Shared → Prop} (P : Shared → Prop)
    (h1 : ∀ E', wpAny M A (exec st env) (fun f s' => match f with | .next => P s' | f => Q f s') E' s) (h2 : ∀ s', P s' → wpAny M A (execs rest env) Q E s') :
    wpAny M A (execs (st :: rest) env) Q E s := by
  refine wpAny_execs_cons (wpAny_mono (h1 E) (fun f s' hf => ?_) fun _ _ x => x)
  cases f <;> first | exact h2 _ hf | exact hf

theorem item_last {value slice : Expr} {a : Addr} {vs : List Value} {n : Nat} {x : Value} {u : Tok} {Q : Value → Shared → Prop} (ho : s.heap.get? a = some (lst vs n)) (hx : vs.getLast? = some x) (h : Q x s)
    (hs : subscripted slice false (.ref a) (.int (-1) u) = operate [.ref a, .int (-1) u] (getItem (.ref a) (.int (-1) u)) := by with_unfolding_all rfl) (hg : ∀ r, letTemporaryGo value (.ref a) r = pure () := by intro _; with_unfolding_all rfl) :
    wpAny (model prog w) A (subscriptTail value slice (.ref a) (.int (-1) u)) Q E s := by
  have hl := isList_lst ho
  have hne : 0 < vs.length := by cases vs with | nil => cases hx | cons _ _ => simp
  refine subscriptTail_builtin hl.typeIs slot_list_getitem.lookup (wpAny_getItem_list_neg hl (by decide) (by simp; omega) (by decide) ?_ h) hs hg
  rw [List.getLast?_eq_getElem?] at hx
  have e : ((-1 : Int) + (vs.toArray.size : Int)).toNat = vs.length - 1 := by simp; omega
  rw [e, List.getElem?_toArray]; exact hx
end
end Mine
namespace Mine
open Builtin Builtin.Str

theorem join_len (sep : Str) : ∀ (parts : List Str), parts ≠ [] → (Str.join sep parts).length + sep.length = (parts.map (·.length)).sum + parts.length * sep.length
  | [], h => absurd rfl h
  | [x], _ => by
    have : Str.join sep [x] = x := by rfl
    rw [this]; simp
  | x :: y :: r, _ => by
    have ih := join_len sep (y :: r) (by simp)
    have : Str.join sep (x :: y :: r) = x ++ sep ++ Str.join sep (y :: r) := by rfl
    rw [this, Str.length_append, Str.length_append]
    simp only [List.map_cons, List.sum_cons, List.length_cons] at ih ⊢
    rw [Nat.add_mul] 
    rw [Nat.add_mul] at ih ⊢
    omega

theorem mem_le_sum (parts : List Str) : ∀ p ∈ parts, p.length ≤ (parts.map (·.length)).sum := by
  induction parts with
  | nil => intro p hp; cases hp
  | cons x r ih =>
    intro p hp
    simp only [List.map_cons, List.sum_cons]
    rcases List.mem_cons.mp hp with rfl | h
    · omega
    · have := ih p h; omega

theorem split_ne (x y : Str) : Txt.split x y ≠ [] := by
  unfold Txt.split
  split
  · simp
  · split
    · simp
    · intro h
      have := congrArg List.length h
      rw [length_partsBetween] at this
      simp at this

theorem split_bounds (x y : Str) (hy : 1 ≤ y.length) : (Txt.split x y).length ≤ x.length + 1 ∧ ∀ p ∈ Txt.split x y, p.length ≤ x.length := by
  have h := join_len y _ (split_ne x y)
  rw [StrLaws.join_split] at h
  have hn : 1 ≤ (Txt.split x y).length := by
    cases hq : Txt.split x y with
    | nil => exact absurd hq (split_ne x y)
    | cons => simp
  have h1 : (Txt.split x y).length * y.length ≥ (Txt.split x y).length - 1 + y.length := by
    obtain ⟨k, hk⟩ : ∃ k, (Txt.split x y).length = k + 1 := ⟨(Txt.split x y).length - 1, by omega⟩
    rw [hk, Nat.add_mul]
    have : k ≤ k * y.length := Nat.le_mul_of_pos_right k hy
    omega
  refine ⟨by omega, fun p hp => ?_⟩
  have := mem_le_sum _ p hp
  omega

theorem eraseLast {α : Type} : ∀ (l : List α), l.eraseIdx (l.length - 1) = l.dropLast
  | [] => rfl
  | [_] => rfl
  | a :: b :: r => by
    have ih := eraseLast (b :: r)
    simp only [List.length_cons, Nat.add_sub_cancel] at ih ⊢
    rw [List.eraseIdx_cons_succ, ih, List.dropLast_cons₂]
theorem kind_pos (x : Str) : 1 ≤ Builtin.Str.strKind x := by
  unfold Builtin.Str.strKind
  split
  · omega
  · split <;> omega
theorem split_two (x y : Str) (hk : Builtin.Str.strKind y ≤ 1) (h : (occurrences x y 0 x.length 1).isEmpty = false) : 2 ≤ (Txt.split x y).length := by
  have hf := (StrLaws.found_iff x y).mp (by rw [h]; rfl)
  obtain ⟨i, hi, hs⟩ := hf
  have hne : (occurrences x y 0 x.length (x.length + 1)).isEmpty = false := by
    cases hq : occurrences x y 0 x.length (x.length + 1) with
    | cons => rfl
    | nil =>
      have := StrLaws.occ_head x y (x.length + 1) (by omega)
      rw [hq] at this
      rcases this with ⟨_, hn⟩ | ⟨a, r, hc, _⟩
      · exact absurd ⟨hi, hs⟩ (hn i)
      · cases hc
  unfold Txt.split
  have hkx := kind_pos x
  rw [if_neg (by simp; omega), if_neg (by rw [hne]; decide), length_partsBetween]
  cases hq : occurrences x y 0 x.length (x.length + 1) with
  | nil => rw [hq] at hne; cases hne
  | cons => simp
end Mine
namespace Mine

theorem among_snoc {pos : Pos} {ln cn : Nat} {c : Value} (l : List Value) (h : TriplesOk l) :
    codeAmong pos (l ++ [rawInt ln, rawInt cn, c]) = match codeAmong pos l with | some v => some v | none => if ((ln : Int) == pos.line && (cn : Int) == pos.col) then some c else none := by
  fun_induction TriplesOk l with
  | case1 => simp [codeAmong, rawInt]
  | case2 a t b u x rest ih =>
    simp only [List.cons_append, codeAmong]
    split
    · rfl
    · exact ih h
  | case3 l h1 h2 => exact absurd h (by simp)

section
variable {M : Model} {A : Around} {E : Value → Shared → Prop} {s : Shared} {gh g : Heap} {ts : List TabI} {mg mb : Str → Option Value} {env : Env} {m : Str → Option Value} {N : List (Addr × Obj)} {name qual : Str} {params : Arguments} {body : FuncBody} {scope : Scope} {pos : Pos} {firstLine : Nat} {clos : List (Str × Addr)}

theorem codeC_of {h : Heap} {c : Addr} {P : Addr} {ps : Array Value} (x : h.CodeRec (.ref c) qual) (y : h.TableAt c P ps) : CodeC h (.ref c) qual := by
  obtain ⟨c', o, vs, t, e1, e2, e3, e4⟩ := x
  cases e1
  obtain ⟨⟨o', vs', f1, f2, f3, _⟩, _⟩ := y
  rw [e2] at f1; cases f1
  exact ⟨_, o, vs, t, rfl, e2, f2, e3, e4⟩

/-- the maker's table grows by one place -/
theorem FS.grow {h h' : Heap} {L : Addr} {t : TabI} {ps : Array Value} {c' : Addr} (S : FS ts g L m N h) (ht : t ∈ ts) (hu : ∀ t' ∈ ts, t'.P = t.P → t' = t)
    (hg : t.P < g.objs.size) (hP : h.get? t.P = some (tabObj ps)) (htr : TriplesOk ps.toList) (hnf : codeAmong pos ps.toList = none)
    (hq : ∀ q ∈ t.qs, q.1.line = pos.line → q.1.col = pos.col → q.2 = qual)
    (hx : Heap.ExtBut t.P h h') (hc : CodeC h' (.ref c') qual) (hP' : h'.get? t.P = some (tabObj (ps ++ #[rawInt pos.line, rawInt pos.col, .ref c']))) : FS ts g L m N h' := by
  have hlt : ∀ b, g.objs.size ≤ b → b ≠ t.P := fun b hb q => absurd (q ▸ hb) (Nat.not_le.mpr hg)
  have hns : h'.Ns L m := S.ns.extBut hx (hlt _ S.above)
  have hPm : t.P ∈ tP ts := List.mem_map_of_mem ht
  have T := S.tabs
  have hkeepC : ∀ cv q, CodeC h cv q → CodeC h' cv q := fun cv q x => x.keeps fun b o e hcl _ => hx b o (fun q => by
    subst q; rw [hP] at e; cases e; cases hcl) e
  refine ⟨⟨fun b o e n => hx b o (fun q => n (q ▸ hPm)) (S.ext.keep b o e n), Nat.le_of_lt (Nat.lt_of_le_of_lt S.above hns.lt), fun _ => ?_⟩, hns, S.above, fun p hp => ⟨hx _ _ (fun q => S.off hp (q ▸ hPm)) (S.news p hp).1, (S.news p hp).2⟩, S.nd, S.tb⟩
  intro t' ht'
  obtain ⟨ps', e, h1, h2⟩ := T t' ht'
  by_cases hpp : t'.P = t.P
  · obtain rfl := hu t' ht' hpp
    rw [hP] at e
    have : ps = ps' := by cases e; rfl
    subst this
    refine ⟨_, hP', ?_, fun q hq' cv hcv => ?_⟩
    · simpa using TriplesOk_snoc _ _ _ _ h1
    · have hl : (ps ++ #[rawInt pos.line, rawInt pos.col, Value.ref c']).toList = ps.toList ++ [rawInt pos.line, rawInt pos.col, .ref c'] := by simp
      rw [hl, among_snoc _ h1] at hcv
      cases hold : codeAmong q.1 ps.toList with
      | some v => rw [hold] at hcv; cases hcv; exact hkeepC _ _ (h2 q hq' _ hold)
      | none =>
        rw [hold] at hcv
        dsimp only at hcv
        split at hcv
        · rename_i hh
          cases hcv
          simp only [Bool.and_eq_true, beq_iff_eq] at hh
          rw [hq q hq' (by omega) (by omega)]; exact hc
        · cases hcv
  · exact ⟨ps', hx _ _ hpp e, h1, fun q hq' cv hcv => hkeepC _ _ (h2 q hq' cv hcv)⟩

theorem builtinsAt {h : Heap} {P : Addr} (G : Gd gh mg mb) (B : Bg gh ts h) (hP : P ∈ tP ts) : h.BuiltinsAt mg P := by
  obtain ⟨bm, ob, b1, b2, b3, b4, b5, b6⟩ := G.bmain
  refine ⟨bm, ob, b1, b2, fun q => ?_, fun q => ?_, B.st _ _ b3, b4, b5, b6⟩
  · obtain ⟨o, es, ep, e, hd, _⟩ := G.g
    rw [q, e] at b3; cases b3; rw [hd] at b6; cases b6
  · have := B.off P hP; rw [← q, b3] at this; cases this

/-- a def or a lambda made in a body -/
theorem mk_fn {kinds : List (Str × NameKind)} {cells : List (Str × Addr)} {eq : Str} {t : TabI} {dV : Value} {Q : Value → Shared → Prop}
    (e : EnvOk env kinds cells eq (.ref t.c)) (S : FS ts g env.locals m N s.heap) (B : Bg gh ts g) (G : Gd gh mg mb) (ht : t ∈ ts) (hu : ∀ t' ∈ ts, t'.P = t.P → t' = t) (hC : CodeHd gh t.c t.P)
    (hq : ∀ q ∈ t.qs, q.1.line = pos.line → q.1.col = pos.col → q.2 = qual) (hqm : (pos, qual) ∈ t.qs)
    (hcl : closureFor scope env = pure clos)
    (h : ∀ f cv ctv doc h' tk, FS ts g env.locals m ((f, { cls := .type "function", data := .func (kdv_fn name qual params body scope clos dV doc ((mg "__name__").getD .none) cv ctv) }) :: N) h' → CodeC h' cv qual →
      Q (.ref f) { s with heap := h', toks := tk }) :
    wpAny M A (makeTail name qual params body scope env dV .none none pos firstLine) Q E s := by
  have hPm : t.P ∈ tP ts := List.mem_map_of_mem ht
  obtain ⟨ps, hP, htr, hqs⟩ := S.tabs t ht
  have hgP : t.P < g.objs.size := B.tb.lt hPm
  have mid : ∀ (k : Value → Sem Value) (h1 : Heap) (tk : Tok), FS ts g env.locals m N h1 → (∀ cv h2 tk2, FS ts g env.locals m N h2 → CodeC h2 cv qual → wpAny M A (k cv) Q E { s with heap := h2, toks := tk2 }) →
      wpAny M A (functionCode env pos firstLine name qual params scope body >>= k) Q E { s with heap := h1, toks := tk } := by
    intro k h1 tk S1 fin
    refine wpAny_bind ?_
    obtain ⟨ps, hP, htr, hqs⟩ := S1.tabs t ht
    have C1 : CodeHd h1 t.c t.P := hC.keeps (S1.bg B).st
    cases hf : codeAmong pos ps.toList with
    | some cv => exact wpAny_functionCode_hit e.code (C1.code hP htr) hf (fin cv h1 tk S1 (hqs _ hqm cv hf))
    | none =>
      refine wpAny_functionCodeX e.code (C1.code hP htr) (C1.tab hP) hf fun c' h2 tk2 hx hge hlt _ hrec htb hex => ?_
      obtain ⟨P', _, _, hT'⟩ := hex
      have hcc := codeC_of hrec hT'
      exact fin (.ref c') h2 tk2 (S1.grow ht hu hgP hP htr hf hq hx hcc htb.2) hcc
  have hend : ∀ cv ctv doc h1 tk', FS ts g env.locals m N h1 → CodeC h1 cv qual → wpAny M A (newObj (.type "function") (.func (kdv_fn name qual params body scope clos dV doc ((mg "__name__").getD .none) cv ctv))) Q E { s with heap := h1, toks := tk' } := fun cv ctv doc h1 tk' S1 hc1 =>
      wpAny_newObj_type (h _ cv ctv doc _ tk' (S1.push _) (hc1.keeps fun b o e _ _ => Heap.get?_push_of_some _ e)) (by size_fits)
  unfold makeTail
  rw [hcl, e.globals]
  refine wpAny_bind (wpAny_pure ?_)
  cases hce : clos.isEmpty with
  | true =>
    simp only [if_true]
    refine wpAny_bind (wpAny_pure ?_)
    refine mid _ s.heap s.toks S fun cv h1 tk S1 hc1 => ?_
    obtain ⟨bm, ob, b1, b2, _, _, b3, b4, b5, b6⟩ := builtinsAt G (S1.bg B) hPm
    have hg' := G.g.keeps (S1.bg B).st
    refine wpAny_bind (wpAny_builtinsFor hg' b1 b2 b3 b4 b5 b6 ?_)
    refine wpAny_bind (wpAny_nsGet hg' ?_)
    cases body with
    | expr x => exact wpAny_bind (wpAny_pure (hend _ _ _ _ _ S1 hc1))
    | stmts b =>
      cases hdoc : docOf b with
      | none => exact wpAny_bind (by simp only [hdoc]; exact wpAny_pure (hend _ _ _ _ _ S1 hc1))
      | some x => exact wpAny_bind (by simp only [hdoc]; exact wpAny_mkText (hend _ _ _ _ _ S1 hc1))
  | false =>
    simp only [Bool.false_eq_true, if_false]
    refine wpAny_bind (wpAny_newTextTuple ?_)
    refine mid _ _ s.toks (S.push _).tail fun cv h1 tk S1 hc1 => ?_
    obtain ⟨bm, ob, b1, b2, _, _, b3, b4, b5, b6⟩ := builtinsAt G (S1.bg B) hPm
    have hg' := G.g.keeps (S1.bg B).st
    refine wpAny_bind (wpAny_builtinsFor hg' b1 b2 b3 b4 b5 b6 ?_)
    refine wpAny_bind (wpAny_nsGet hg' ?_)
    cases body with
    | expr x => exact wpAny_bind (wpAny_pure (hend _ _ _ _ _ S1 hc1))
    | stmts b =>
      cases hdoc : docOf b with
      | none => exact wpAny_bind (by simp only [hdoc]; exact wpAny_pure (hend _ _ _ _ _ S1 hc1))
      | some x => exact wpAny_bind (by simp only [hdoc]; exact wpAny_mkText (hend _ _ _ _ _ S1 hc1))

/-- a lambda without defaults -/
theorem eLam {kinds : List (Str × NameKind)} {cells : List (Str × Addr)} {eq : Str} {t : TabI} {lb : Expr} {Q : Value → Shared → Prop}
    (e : EnvOk env kinds cells eq (.ref t.c)) (S : FS ts g env.locals m N s.heap) (B : Bg gh ts g) (G : Gd gh mg mb) (ht : t ∈ ts) (hu : ∀ t' ∈ ts, t'.P = t.P → t' = t) (hC : CodeHd gh t.c t.P)
    (hq : ∀ q ∈ t.qs, q.1.line = pos.line → q.1.col = pos.col → q.2 = eq ++ "<lambda>") (hqm : (pos, eq ++ "<lambda>") ∈ t.qs)
    (hcl : closureFor scope env = pure clos) (hdef : defaultsOf params env = ([], []))
    (h : ∀ f cv ctv doc h' tk, FS ts g env.locals m ((f, { cls := .type "function", data := .func (kdv_fn "<lambda>" (eq ++ "<lambda>") params (.expr lb) scope clos .none doc ((mg "__name__").getD .none) cv ctv) }) :: N) h' → CodeC h' cv (eq ++ "<lambda>") →
      Q (.ref f) { s with heap := h', toks := tk }) :
    wpAny M A (eval (.Lambda params lb scope pos) env) Q E s := by
  refine kla_eval hdef ?_
  rw [makeFunction_eq, e.qual]
  simp only [List.zip_nil_right, List.filterMap_nil, List.isEmpty_nil, if_true, pure_bind]
  exact mk_fn e S B G ht hu hC hq hqm hcl h
end
end Mine
namespace Mine
theorem amap_none : ∀ (ks : List Str), amap ks (ks.map fun _ => none) = fun _ => none
  | [] => rfl
  | k :: ks => by funext y; simp only [List.map_cons, amap, amap_none ks]; split <;> rfl

section
variable {prog : Program} {w : World} {A : Around} {E : Value → Shared → Prop} {s : Shared} {gh : Heap} {ts : List TabI} {mg mb : Str → Option Value}

/-- a def whose arguments are all kept in cells -/
theorem enterC {R : Result → Shared → Prop} {a : Addr} {o : Obj} {fd : FuncData} {body : List Stmt} {args : Args} {binds : List (Str × Value)} {ks : List Str} {k : Nat}
    (B : Bg gh ts s.heap) (G : Gd gh mg mb) (hA : AOk A (k + 1)) (ho : s.heap.get? a = some o) (hdata : o.data = .func fd) (hcd : s.heap.CodeRec fd.code fd.qualname)
    (hbody : fd.body = .stmts body) (hbind : BindsTo s fd args binds) (hclo : fd.closure = [])
    (hg : fd.globals = mainGlobals) (hb : fd.builtins = builtinsNs)
    (hkind : ∀ n, ∀ x ∈ binds, fd.scope.names.lookup x.1 = some .local ∨ (fd.scope.names.lookup x.1 = some .cell ∧ ((cellsFrom n fd.scope.names []).lookup x.1).isSome = true))
    (hnd : ((cellsFrom 0 fd.scope.names []).map (·.1)).Nodup)
    (hbl : bindL (fun y => fd.scope.names.lookup y) binds (fun _ => none) = fun _ => none)
    (h : ∀ env A' h₁ tk cells (E' : Value → Shared → Prop), EnvOk env fd.scope.names (cellsFrom (env.locals + 1) fd.scope.names []) (fd.qualname ++ ".<locals>.") fd.code → AOk A' k →
      CellsAre (bindC (fun y => fd.scope.names.lookup y) binds fun _ => none) (cellsFrom (env.locals + 1) fd.scope.names []) cells →
      FS ts s.heap env.locals (amap ks (ks.map fun _ => none)) cells h₁ →
      wpAny (model prog w) A' (execs body env) (fun f s' => R (.ok (.ret (match f with | .ret v => v | _ => .none))) s') E' { s with heap := h₁, toks := tk })
    (hco : fd.scope.isCoroutine = false := by rfl) (hgen : fd.scope.isGenerator = false := by rfl) (hk : fd.scope.kind = .function := by rfl) :
    codeAny (model prog w) A (.call (.ref a) args) R s := by
  refine codeAny_call_function hA.room ho hdata hco hgen hbody hcd (hbind _ _ _ _ ?_)
  rw [hclo]
  refine wpAny_newFunctionEnv_cells hk (hkind _) fun env' he s' x => ?_
  refine ⟨(G.lim.keeps B.st).keeps x.toInCall.keep, codeAny_func ?_⟩
  obtain ⟨h₁, tk, hs', hkp⟩ := x.done
  have hloc : env'.locals = s.heap.objs.size := by rw [he]; rfl
  have hcells : env'.cells = cellsFrom (env'.locals + 1) fd.scope.names [] := by rw [he]; rfl
  have hkindOf : env'.kindOf = fun y => fd.scope.names.lookup y := by rw [he]; rfl
  have hmem : ∀ n c, (n, c) ∈ env'.cells → env'.cells.lookup n = some c := fun n c hm => lookup_of_mem_nodup (hcells ▸ (cellsFrom_names fd.scope.names 0 (env'.locals + 1) [] [] rfl ▸ hnd)) hm
  obtain ⟨cells, NC, Y⟩ := Cl.news (h₀ := s.heap) (L := env'.locals) (cm := bindC env'.kindOf binds fun _ => none) (h := s'.heap) (cs := env'.cells) (Nat.le_of_eq hloc.symm) fun n c hm => ⟨x.cell n c (hmem n c hm), x.above n c hm⟩
  have hnd' : cells.Pairwise Apart := by
    have hp := x.apart
    clear NC
    generalize env'.cells = cs at *
    clear hcells hmem
    have : ∀ (cs : List (Str × Addr)) (cells : List (Addr × Obj)), CellsAre (bindC env'.kindOf binds fun _ => none) cs cells → cells.map (·.1) = cs.map (·.2) := by
      intro cs cells Y
      induction Y with
      | nil => rfl
      | cons _ _ ih => simp [ih]
    have h4 : (cells.map (·.1)).Pairwise (· ≠ ·) := by rw [this _ _ Y]; exact List.pairwise_map.mpr hp
    exact (List.pairwise_map.mp h4).imp fun h => .inl h
  have hS : FS ts s.heap env'.locals (amap ks (ks.map fun _ => none)) cells s'.heap := by
    refine ⟨Ext.stays x.toInCall.keep (Nat.le_of_lt (hloc ▸ x.toInCall.ns.lt)), ?_, Nat.le_of_eq hloc.symm, fun p hp => ⟨(NC p hp).1, (NC p hp).2.1, ?_⟩, hnd', B.tb⟩
    · rw [amap_none, ← hbl, ← hkindOf]; exact x.toInCall.ns
    · refine .inl ?_
      cases Nat.lt_or_ge p.1 s.heap.objs.size with
      | inr h => exact h
      | inl h =>
        exfalso
        have hm : ∀ (cs : List (Str × Addr)) (cells : List (Addr × Obj)), CellsAre (bindC env'.kindOf binds fun _ => none) cs cells → ∀ p ∈ cells, ∃ n, (n, p.1) ∈ cs := by
          intro cs cells Y
          induction Y with
          | nil => intro p hp; cases hp
          | cons _ _ ih =>
            intro p hp
            rcases List.mem_cons.mp hp with rfl | hp
            · exact ⟨_, .head _⟩
            · obtain ⟨n, hn⟩ := ih p hp; exact ⟨n, .tail _ hn⟩
        obtain ⟨n, hn⟩ := hm _ _ Y p hp
        have h3 := x.above n p.1 hn
        rw [hloc] at h3
        exact absurd (Nat.lt_trans h3 h) (Nat.lt_irrefl _)
  have := h env' (A.deeper env') s'.heap s'.toks cells (fun e s' => wpAny (model prog w) (A.deeper env') (leaving env' e) (fun _ s'' => R (.error e) s'') (fun e' s'' => R (.error e') s'') s')
    ⟨by rw [he]; exact hk, by rw [he]; rfl, hcells, by rw [he]; exact hg, by rw [he]; exact hb, by rw [he]; rfl, by rw [he]; rfl⟩ hA.deeper (by rw [← hcells, ← hkindOf]; exact Y) hS
  have e2 : ({ s with heap := s'.heap, toks := s'.toks } : Shared) = s' := by rw [hs']
  rw [e2] at this
  exact this

/-- a lambda's call -/
theorem enterE {R : Result → Shared → Prop} {a : Addr} {o : Obj} {fd : FuncData} {body : Expr} {args : Args} {binds : List (Str × Value)} {ks : List Str} {k : Nat}
    (B : Bg gh ts s.heap) (G : Gd gh mg mb) (hA : AOk A (k + 1)) (ho : s.heap.get? a = some o) (hdata : o.data = .func fd) (hcd : s.heap.CodeRec fd.code fd.qualname)
    (hbody : fd.body = .expr body) (hbind : BindsTo s fd args binds)
    (hg : fd.globals = mainGlobals) (hb : fd.builtins = builtinsNs)
    (hcell : (fd.scope.names.all fun x => x.2 != .cell) = true) (hloc : (binds.all fun x => fd.scope.names.lookup x.1 == some .local) = true)
    (h : ∀ env A' h₁ (E' : Value → Shared → Prop), EnvOk env fd.scope.names fd.closure (fd.qualname ++ ".<locals>.") fd.code → AOk A' k →
      FS ts s.heap env.locals (amap (binds.reverse.map (·.1) ++ ks) ((binds.reverse.map fun p => some p.2) ++ ks.map fun _ => none)) [] h₁ →
      wpAny (model prog w) A' (eval body env) (fun v s' => R (.ok (.ret v)) s') E' { s with heap := h₁, toks := s.toks + binds.length })
    (hco : fd.scope.isCoroutine = false := by rfl) (hgen : fd.scope.isGenerator = false := by rfl) (hk : fd.scope.kind = .function := by rfl) :
    codeAny (model prog w) A (.call (.ref a) args) R s := by
  refine kla_callFunE hA.room ho hdata hco hgen hbody hcd (hbind _ _ _ _ ?_)
  refine wpAny_newFunctionEnv (fun x hx => by simpa using List.all_eq_true.mp hcell x hx) (fun x hx => by simpa using List.all_eq_true.mp hloc x hx) (fun h₁ hns hsb => ⟨(G.lim.keeps B.st).fresh _ hsb, ?_⟩) hk
  have hkp : ∀ b o, s.heap.get? b = some o → h₁.get? b = some o := fun b o e => hsb.extBut b o (Nat.ne_of_lt (Heap.lt_size e)) (Heap.get?_push_of_some _ e)
  refine kla_codeExpr (h (callEnv fd s.heap.objs.size a) (A.deeper _) h₁ _ ⟨hk, rfl, rfl, hg, hb, rfl, rfl⟩ hA.deeper ?_)
  have hns' : h₁.Ns s.heap.objs.size (amap (binds.reverse.map (·.1) ++ ks) ((binds.reverse.map fun p => some p.2) ++ ks.map fun _ => none)) := by
    rw [← amap_pad ks (by simp), ← bind_amap]; exact hns
  show FS ts s.heap s.heap.objs.size _ [] h₁
  exact ⟨Ext.stays hkp (Nat.le_of_lt hns.lt), hns', Nat.le_refl _, (fun p hp => by cases hp), List.Pairwise.nil, B.tb⟩
end
end Mine
namespace Mine
def dots : Str := "..."
def emGo (got : Str) (ep : Int) : List Str → Int → Bool
  | [], _ => true
  | w :: r, sp => if find4 got w sp ep < 0 then false else emGo got ep r (find4 got w sp ep + w.length)
def emEnd (got : Str) (ws : List Str) (sp : Int) : Bool :=
  if (ws.getLastD Str.empty).length ≠ 0 ∧ Txt.endswith got (ws.getLastD Str.empty) = false then false
  else if sp > (got.length : Int) - (ws.getLastD Str.empty).length then false
  else emGo got ((got.length : Int) - (ws.getLastD Str.empty).length) (if (ws.getLastD Str.empty).length = 0 then ws else ws.dropLast) sp
def emB (want got : Str) : Bool :=
  if (Builtin.Str.occurrences want dots 0 want.length 1).isEmpty = true then want == got
  else if ((Txt.split want dots).headD Str.empty).length ≠ 0 ∧ Txt.startswith got ((Txt.split want dots).headD Str.empty) = false then false
  else emEnd got (if ((Txt.split want dots).headD Str.empty).length = 0 then Txt.split want dots else (Txt.split want dots).tail) ((Txt.split want dots).headD Str.empty).length

end Mine
namespace Mine

def WPost (ts : List TabI) (g : Heap) (L : Addr) (ns : List Str) (J : Nat → List (Option Value) → List (Addr × Obj) → Prop) (s : Shared) (Q : Flow → Shared → Prop) (n : Nat) (f : Flow) (s₂ : Shared) : Prop :=
  match f with
  | .ret v => Q (.ret v) s₂
  | .brk => Q .next s₂
  | _ => ∃ n' vs N h tk, s₂ = { s with heap := h, toks := tk } ∧ n' < n ∧ FS ts g L (amap ns vs) N h ∧ J n' vs N

section
variable {prog : Program} {w : World} {A : Around} {E : Value → Shared → Prop} {s : Shared} {env : Env} {ts : List TabI} {g : Heap} {ns : List Str} {vs : List (Option Value)} {N : List (Addr × Obj)} {body : List Stmt} {Q : Flow → Shared → Prop}

theorem while_loop {test : Expr} {pos : Pos} {n₀ : Nat} (J : Nat → List (Option Value) → List (Addr × Obj) → Prop)
    (S : FS ts g env.locals (amap ns vs) N s.heap) (h0 : J n₀ vs N)
    (turn : ∀ n vs₁ N₁ h tk (E' : Value → Shared → Prop), J n vs₁ N₁ → FS ts g env.locals (amap ns vs₁) N₁ h →
      wpAny (model prog w) A (isTrue test env (eval test env)) (fun b s₂ =>
        if b = true then wpAny (model prog w) A (execs body env) (WPost ts g env.locals ns J s Q n) E' s₂ else Q .next s₂) E' { s with heap := h, toks := tk }) :
    wpAny (model prog w) A (exec (.While test body [] pos) env) Q E s := by
  refine wpAny_While (codeAny_whileLoop (fun n s' => ∃ h₁ tk₁ vs₁ N₁, s' = { s with heap := h₁, toks := tk₁ } ∧ FS ts g env.locals (amap ns vs₁) N₁ h₁ ∧ J n vs₁ N₁) ?_ n₀ ⟨s.heap, s.toks, vs, N, rfl, S, h0⟩)
  rintro n s' ⟨h₁, tk₁, vs₁, N₁, rfl, S₁, J₁⟩
  refine wpAny_mono (turn n vs₁ N₁ h₁ tk₁ _ J₁ S₁) (fun b s₂ h₂ => ?_) fun _ _ x => x
  cases b with
  | false =>
    simp only [Bool.false_eq_true, if_false] at h₂ ⊢
    exact wpAny_execs_nil h₂
  | true =>
    simp only [if_true] at h₂ ⊢
    refine wpAny_mono h₂ (fun f s₃ h₃ => ?_) fun _ _ x => x
    cases f with
    | next =>
      obtain ⟨n', vs₂, N₂, h', tk, rfl, hn, S₂, J₂⟩ := h₃
      exact ⟨n', hn, h', tk, vs₂, N₂, rfl, S₂, J₂⟩
    | cont =>
      obtain ⟨n', vs₂, N₂, h', tk, rfl, hn, S₂, J₂⟩ := h₃
      exact ⟨n', hn, h', tk, vs₂, N₂, rfl, S₂, J₂⟩
    | brk => exact h₃
    | ret v => exact h₃
end

/-! ## hits and finders: what they do when called -/
theorem CodeC.ext {ts : List TabI} {h h' : Heap} {cv : Value} {q : Str} (x : CodeC h cv q) (T : Tabs ts h) (k : Ext ts h h') : CodeC h' cv q :=
  x.keeps fun b o e c _ => k.keep b o e (T.ne e fun ps q => by rw [q] at c; cases c)

def Stands (N : List (Addr × Obj)) (h : Heap) : Prop := ∀ p ∈ N, h.get? p.1 = some p.2
theorem Stands.mono {N N' : List (Addr × Obj)} {h : Heap} (x : Stands N' h) (k : N ⊆ N') : Stands N h := fun p hp => x p (k hp)
theorem FS.stands {ts : List TabI} {g h : Heap} {L : Addr} {m : Str → Option Value} {N : List (Addr × Obj)} (S : FS ts g L m N h) : Stands N h := fun p hp => (S.news p hp).1
/-- they stand behind a call too -/
def Firm (ts : List TabI) (N : List (Addr × Obj)) (h : Heap) : Prop := ∀ p ∈ N, h.get? p.1 = some p.2 ∧ p.1 ∉ tP ts
theorem FS.firm {ts : List TabI} {g h : Heap} {L : Addr} {m : Str → Option Value} {N : List (Addr × Obj)} (S : FS ts g L m N h) : Firm ts N h := fun p hp => ⟨(S.news p hp).1, S.off hp⟩
theorem Firm.ext {ts : List TabI} {N : List (Addr × Obj)} {h h' : Heap} (x : Firm ts N h) (k : Ext ts h h') : Firm ts N h' := fun p hp => ⟨k.keep _ _ (x p hp).1 (x p hp).2, (x p hp).2⟩
theorem Firm.mono {ts : List TabI} {N N' : List (Addr × Obj)} {h : Heap} (x : Firm ts N' h) (k : N ⊆ N') : Firm ts N h := fun p hp => x p (k hp)
theorem Firm.stands {ts : List TabI} {N : List (Addr × Obj)} {h : Heap} (x : Firm ts N h) : Stands N h := fun p hp => (x p hp).1

section
variable (prog : Program) (w : World) (gh : Heap) (ts : List TabI)

def SpanSpec (N : List (Addr × Obj)) (f : Addr) (i j : Int) : Prop :=
  ∀ (A : Around) (k : Nat) (s : Shared) (R : Result → Shared → Prop), AOk A (k + 1) → Bg gh ts s.heap → Firm ts N s.heap →
    (∀ a tv1 tv2 F h' tk, Ext ts s.heap h' → Led s.heap F h' → (a, tpl [.int i tv1, .int j tv2] 0) ∈ F → R (.ok (.ret (.ref a))) { s with heap := h', toks := tk }) →
    codeAny (model prog w) A (.call (.ref f) ⟨[], []⟩) R s

def IsHit (N : List (Addr × Obj)) (a : Addr) (i j : Int) : Prop :=
  ∃ o fd d od f fo ffd, (a, o) ∈ N ∧ o.cls = .type "function" ∧ o.data = .func fd ∧ o.dict = some d ∧ (d, od) ∈ N ∧ (∀ h : Heap, h.get? d = some od → h.Ns d (fun y => if y = "span" then some (.ref f) else none)) ∧ (f, fo) ∈ N ∧ fo.data = .func ffd ∧
    SpanSpec prog w gh ts N f i j

def SearchSpec (N : List (Addr × Obj)) (f : Addr) (chars : Str) (nxt : Nat → Option (Nat × Nat)) : Prop :=
  ∀ (A : Around) (k : Nat) (s : Shared) (R : Result → Shared → Prop) (j : Nat) (t : Tok) (extra : List Value), AOk A (k + 2) → Bg gh ts s.heap → Firm ts N s.heap →
    (extra = [] ∧ j = 0 ∨ ∃ u, extra = [.int (j : Int) u]) → j ≤ 2000 →
    (nxt j = none → ∀ h' tk, Ext ts s.heap h' → R (.ok (.ret .none)) { s with heap := h', toks := tk }) →
    (∀ i' j', nxt j = some (i', j') → ∀ a F h' tk, Ext ts s.heap h' → Led s.heap F h' → IsHit prog w gh ts F a i' j' → R (.ok (.ret (.ref a))) { s with heap := h', toks := tk }) →
    codeAny (model prog w) A (.call (.ref f) ⟨.str chars t :: extra, []⟩) R s

def IsProg (N : List (Addr × Obj)) (a : Addr) (chars : Str) (nxt : Nat → Option (Nat × Nat)) : Prop :=
  ∃ o fd d od f fo ffd, (a, o) ∈ N ∧ o.cls = .type "function" ∧ o.data = .func fd ∧ o.dict = some d ∧ (d, od) ∈ N ∧ (∀ h : Heap, h.get? d = some od → h.Ns d (fun y => if y = "search" then some (.ref f) else none)) ∧ (f, fo) ∈ N ∧ fo.data = .func ffd ∧
    SearchSpec prog w gh ts N f chars nxt
end

section
variable {prog : Program} {w : World} {gh : Heap} {ts : List TabI} {N N' : List (Addr × Obj)} {a : Addr}
theorem IsHit.mono {i j : Int} (H : IsHit prog w gh ts N a i j) (x : N ⊆ N') : IsHit prog w gh ts N' a i j := by
  obtain ⟨o, fd, d, od, f, fo, ffd, h1, h2, h3, h4, h5, h6, h7, h8, hs⟩ := H
  exact ⟨o, fd, d, od, f, fo, ffd, x h1, h2, h3, h4, x h5, h6, x h7, h8, fun A k s R hA B y hR => hs A k s R hA B (y.mono x) hR⟩
theorem IsProg.mono {chars : Str} {nxt : Nat → Option (Nat × Nat)} (H : IsProg prog w gh ts N a chars nxt) (x : N ⊆ N') : IsProg prog w gh ts N' a chars nxt := by
  obtain ⟨o, fd, d, od, f, fo, ffd, h1, h2, h3, h4, h5, h6, h7, h8, hs⟩ := H
  exact ⟨o, fd, d, od, f, fo, ffd, x h1, h2, h3, h4, x h5, h6, x h7, h8, fun A k s R j t ex hA B y he hj r1 r2 => hs A k s R j t ex hA B (y.mono x) he hj r1 r2⟩
end

theorem lk_span : typeLookup (.type "function") "span" = pure none := by rw [typeLookup_type, builtinLookup_eq_fast]; kernel_rfl
theorem lk_search : typeLookup (.type "function") "search" = pure none := by rw [typeLookup_type, builtinLookup_eq_fast]; kernel_rfl

section
variable {prog : Program} {w : World} {A : Around} {E : Value → Shared → Prop} {s : Shared} {gh : Heap} {ts : List TabI} {env : Env}
/-- hit.span() -/
theorem span_call {o : Expr} {apos pos : Pos} {pl : Sem Bool} {Q : Value → Shared → Prop} {N : List (Addr × Obj)} {a : Addr} {i j : Int} {k : Nat} (hA : AOk A (k + 1))
    (ho : ∀ Q', Q' (.ref a) s → wpAny (model prog w) A (eval o env) Q' E s) (H : IsHit prog w gh ts N a i j) (hN : Firm ts N s.heap) (B : Bg gh ts s.heap)
    (h : ∀ a tv1 tv2 F h' tk, Ext ts s.heap h' → Led s.heap F h' → (a, tpl [.int i tv1, .int j tv2] 0) ∈ F → Q (.ref a) { s with heap := h', toks := tk })
    (he : eval (.Call (.Attribute o "span" apos) [] [] pos) env = (do
      let ov ← eval o env
      standAt apos.atName
      let (f, first) ← holding [ov] (getMethod ov "span" pl)
      callWith pos f first (backTo pos (starEach [] env)) []) := by rfl) :
    wpAny (model prog w) A (eval (.Call (.Attribute o "span" apos) [] [] pos) env) Q E s := by
  refine MethodCall_ (pl := pl) (ho _ ?_) he
  obtain ⟨o, fd, d, od, f, fo, ffd, h1, h2, h3, h4, h5, h6, h7, h8, hs⟩ := H
  refine fn_method (hN _ h1).1 h2 h4 h3 (h6 _ (hN _ h5).1) (if_pos rfl) rfl lk_span ?_
  refine callWith_meth0 h8 (hN _ h7).1 (wpAny_call (hs A k _ _ hA B hN fun a tv1 tv2 F h' tk x l e => ?_))
  exact h a tv1 tv2 F h' tk x l e
theorem hit_truthy {N : List (Addr × Obj)} {a : Addr} {i j : Int} {Q : Bool → Shared → Prop} (H : IsHit prog w gh ts N a i j) (hN : Stands N s.heap) (h : Q true s) : wpAny (model prog w) A (truthy (.ref a)) Q E s := by
  obtain ⟨o, fd, d, od, f, fo, ffd, h1, h2, _⟩ := H
  exact fn_truthy (hN _ h1) h2 h
end
end Mine
namespace Mine
section
variable {prog : Program} {w : World} {A : Around} {E : Value → Shared → Prop} {s : Shared} {ts : List TabI} {g : Heap} {N : List (Addr × Obj)} {env : Env} {kinds : List (Str × NameKind)} {cells : List (Str × Addr)} {qual : Str} {code : Value} {ns : List Str} {vs : List (Option Value)}

theorem asg_pair {a b : Str} {pa pb pos : Pos} {k ia ib : Nat} {t : Addr} {v1 v2 : Value} {n : Nat} {Q : Unit → Shared → Prop} (e : EnvOk env kinds cells qual code) (S : FS ts g env.locals (amap ns vs) N s.heap) (hh : A.handled = none) (ht : s.heap.get? t = some (tpl [v1, v2] n))
    (ha : kinds.lookup a = some .local) (hb : kinds.lookup b = some .local) (hia : ns.idxOf a = ia) (hib : ns.idxOf b = ib) (hla : ia < ns.length) (hlb : ib < ns.length) (hlen : ns.length = vs.length)
    (h : ∀ h' tk, FS ts g env.locals (amap ns ((vs.set ia (some v1)).set ib (some v2))) N h' → Q () { s with heap := h', toks := tk }) :
    wpAny (model prog w) A (assign (.Tuple [.Name a pa, .Name b pb] k pos) env (.ref t)) Q E s := by
  refine assign_Tuple_tuple hh (isTup_tpl ht) rfl rfl fun h1 hx => ?_
  have S := S.extNew hx
  refine assign_cons (wpAny_assign_Name ?_)
  refine eSt e S ha hia hla hlen fun h2 S => ?_
  refine assign_cons (wpAny_assign_Name ?_)
  refine eSt e S hb hib hlb (by simpa using hlen) fun h3 S => ?_
  exact wpAny_assignInOrder_none (h _ _ S)

theorem asg_triple {a b c : Str} {pa pb pc pos : Pos} {k ia ib ic : Nat} {t : Addr} {v1 v2 v3 : Value} {n : Nat} {Q : Unit → Shared → Prop} (e : EnvOk env kinds cells qual code) (S : FS ts g env.locals (amap ns vs) N s.heap) (hh : A.handled = none) (ht : s.heap.get? t = some (tpl [v1, v2, v3] n))
    (ha : kinds.lookup a = some .local) (hb : kinds.lookup b = some .local) (hc : kinds.lookup c = some .local) (hia : ns.idxOf a = ia) (hib : ns.idxOf b = ib) (hic : ns.idxOf c = ic) (hla : ia < ns.length) (hlb : ib < ns.length) (hlc : ic < ns.length) (hlen : ns.length = vs.length)
    (h : ∀ h' tk, FS ts g env.locals (amap ns (((vs.set ia (some v1)).set ib (some v2)).set ic (some v3))) N h' → Q () { s with heap := h', toks := tk }) :
    wpAny (model prog w) A (assign (.Tuple [.Name a pa, .Name b pb, .Name c pc] k pos) env (.ref t)) Q E s := by
  refine assign_Tuple_tuple hh (isTup_tpl ht) rfl rfl fun h1 hx => ?_
  have S := S.extNew hx
  refine assign_cons (wpAny_assign_Name ?_)
  refine eSt e S ha hia hla hlen fun h2 S => ?_
  refine assign_cons (wpAny_assign_Name ?_)
  refine eSt e S hb hib hlb (by simpa using hlen) fun h3 S => ?_
  refine assign_cons (wpAny_assign_Name ?_)
  refine eSt e S hc hic hlc (by simpa using hlen) fun h3 S => ?_
  exact wpAny_assignInOrder_none (h _ _ S)

/-- prog.search(chars, ..): the arguments are evaluated in between -/
theorem search_call {gh : Heap} {chars : Str} {nxt : Nat → Option (Nat × Nat)} {o ea : Expr} {rest : List Expr} {apos pos : Pos} {pl : Sem Bool} {Q : Value → Shared → Prop} {N : List (Addr × Obj)} {a : Addr} {k : Nat} (hA : AOk A (k + 2))
    (ho : ∀ Q', Q' (.ref a) s → wpAny (model prog w) A (eval o env) Q' E s) (H : IsProg prog w gh ts N a chars nxt) (hN : Firm ts N s.heap)
    {j : Nat} {t : Tok} {extra : List Value} (hex : extra = [] ∧ j = 0 ∨ ∃ u, extra = [.int (j : Int) u]) (hj : j ≤ 2000)
    (hargs : ∀ (Q' : List Value → Shared → Prop) tk0, (∀ tk, Q' (.str chars t :: extra) { s with toks := tk }) → wpAny (model prog w) A (spliced (backTo pos (starEach (ea :: rest) env))) Q' E { s with toks := tk0 }) (B : Bg gh ts s.heap)
    (h1 : nxt j = none → ∀ h' tk, Ext ts s.heap h' → Q .none { s with heap := h', toks := tk })
    (h2 : ∀ i' j', nxt j = some (i', j') → ∀ a F h' tk, Ext ts s.heap h' → Led s.heap F h' → IsHit prog w gh ts F a i' j' → Q (.ref a) { s with heap := h', toks := tk })
    (he : eval (.Call (.Attribute o "search" apos) (ea :: rest) [] pos) env = (do
      let ov ← eval o env
      standAt apos.atName
      let (f, first) ← holding [ov] (getMethod ov "search" pl)
      callWith pos f first (backTo pos (starEach (ea :: rest) env)) []) := by rfl)
    (hst : starEach (ea :: rest) env = (false, eval ea env) :: starEach rest env := by rfl) :
    wpAny (model prog w) A (eval (.Call (.Attribute o "search" apos) (ea :: rest) [] pos) env) Q E s := by
  refine MethodCall_ (pl := pl) (ho _ ?_) he
  obtain ⟨o, fd, d, od, f, fo, ffd, g1, g2, g3, g4, g5, g6, g7, g8, hs⟩ := H
  refine fn_method (hN _ g1).1 g2 g4 g3 (g6 _ (hN _ g5).1) (if_pos rfl) rfl lk_search ?_
  refine callWith_def g8 (hargs _ _ fun tk => ⟨(hN _ g7).1, wpAny_call (hs A k _ _ j t extra hA B hN hex hj (fun hn h' tk' x => ?_) (fun i' j' hn a F h' tk' x l H => ?_))⟩) hst
  · exact h1 hn h' tk' x
  · exact h2 i' j' hn a F h' tk' x l H
end
end Mine
namespace Mine
def srGo (nxt : Nat → Option (Nat × Nat)) (col : Int) : Nat → Option (Nat × Nat) → Nat × Nat → Option (Nat × Nat)
  | 0, found, _ => found
  | k + 1, found, m => if (m.1 : Int) < col ∧ (m.2 : Int) ≤ col then (match nxt (if m.1 = m.2 then m.2 + 1 else m.2) with | none => some m | some m' => srGo nxt col k (some m) m') else found
def srB (nxt : Nat → Option (Nat × Nat)) (col : Int) (fuel : Nat) : Option (Nat × Nat) :=
  match nxt 0 with | none => none | some m => srGo nxt col fuel none m
end Mine
namespace Mine
open Builtin Builtin.Str

theorem idx_clip (a b n : Nat) : strSliceIndices (some (a : Int)) (some (b : Int)) 1 n = strSliceIndices (some ((min a n : Nat) : Int)) (some ((min b n : Nat) : Int)) 1 n := by
  have h1 : ¬ ((a : Int) < 0) := by omega
  have h2 : ¬ ((b : Int) < 0) := by omega
  have h3 : ¬ (((min a n : Nat) : Int) < 0) := by omega
  have h4 : ¬ (((min b n : Nat) : Int) < 0) := by omega
  unfold strSliceIndices
  simp only [h1, h2, h3, h4, if_false, show (1 : Int) > 0 by decide, if_true]
  congr 1 <;> omega

theorem slice_ab (x : Str) (a b : Nat) : Txt.slice x (some (a : Int)) (some (b : Int)) = ⟨((x.cps.toList.take b).drop a).toArray⟩ := by
  have hx : x.cps.toList.length = x.length := by simp [Str.length]
  have e : Txt.slice x (some (a : Int)) (some (b : Int)) = Txt.slice x (some ((min a x.length : Nat) : Int)) (some ((min b x.length : Nat) : Int)) := by
    unfold Txt.slice; rw [idx_clip]
  rw [e]
  by_cases hab : min a x.length ≤ min b x.length
  · refine (StrLaws.sliceText_nat x hab (Nat.min_le_right _ _)).trans ?_
    congr 2
    apply List.ext_getElem?
    intro i
    rw [List.getElem?_take, List.getElem?_drop, List.getElem?_drop, List.getElem?_take]
    by_cases h1 : i < min b x.length - min a x.length
    · rw [if_pos h1]
      by_cases h2 : a ≤ x.length
      · rw [if_pos (by omega), Nat.min_eq_left h2]
      · omega
    · rw [if_neg h1]
      split
      · rw [List.getElem?_eq_none (by omega)]
      · rfl
  · have h0 : strSliceIndices (some ((min a x.length : Nat) : Int)) (some ((min b x.length : Nat) : Int)) 1 x.length = [] := by
      have h3 : ¬ (((min a x.length : Nat) : Int) < 0) := by omega
      have h4 : ¬ (((min b x.length : Nat) : Int) < 0) := by omega
      unfold strSliceIndices sliceRange
      simp only [h3, h4, if_false, show (1 : Int) > 0 by decide, if_true]
      rw [if_neg (by omega)]
      try rfl
    unfold Txt.slice
    rw [h0, if_neg]
    · have : (x.cps.toList.take b).drop a = [] := List.drop_eq_nil_of_le (by simp; omega)
      rw [this]; rfl
    · simp; omega

theorem slice_b (x : Str) (b : Nat) : Txt.slice x none (some (b : Int)) = ⟨(x.cps.toList.take b).toArray⟩ := by
  have e : Txt.slice x none (some (b : Int)) = Txt.slice x (some ((0 : Nat) : Int)) (some (b : Int)) := by
    unfold Txt.slice; rw [StrLaws.sliceIdx_none_lo]; rfl
  rw [e, slice_ab]; rfl
theorem slice_a (x : Str) (a : Nat) : Txt.slice x (some (a : Int)) none = ⟨(x.cps.toList.drop a).toArray⟩ := by
  have e : Txt.slice x (some (a : Int)) none = Txt.slice x (some (a : Int)) (some (x.length : Int)) := by
    unfold Txt.slice; rw [StrLaws.sliceIdx_none_hi]
  rw [e, slice_ab]
  congr 3
  rw [List.take_of_length_le (by simp [Str.length])]

section
variable {prog : Program} {w : World} {A : Around} {E : Value → Shared → Prop} {s : Shared} {value slice : Expr} {x : Str} {t : Tok} {ts : List TabI} {g : Heap} {L : Addr} {m : Str → Option Value} {N : List (Addr × Obj)} {Q : Value → Shared → Prop}
theorem keptFS : KeptH (FS ts g L m N) := fun h ob S => (S.push0 ob)
theorem cut_ss {i j : Int} {ui uj : Tok} {a b : Nat} (S : FS ts g L m N s.heap) (hi : i = a) (hj : j = b) (hsz : x.length ≤ 5000)
    (h : ∀ h' t' k, FS ts g L m N h' → Q (.str ⟨((x.cps.toList.take b).drop a).toArray⟩ t') { s with heap := h', toks := k })
    (hs : subscripted slice false (.str x t) (.ref s.heap.objs.size) = operate [.ref s.heap.objs.size, .str x t] (getItem (.str x t) (.ref s.heap.objs.size)) := by with_unfolding_all rfl)
    (ht : ∀ r, letTemporaryGo value (.str x t) r = pure () := by intro _; with_unfolding_all rfl) :
    wpAny (model prog w) A (subscriptTail value slice (.str x t) (.ref s.heap.objs.size)) Q E { s with heap := s.heap.push { cls := .type "slice", data := .fields #[.int i ui, .int j uj, .none] } } := by
  subst hi hj
  exact tail_of_ItemOn (SBH.sliceItem_ss keptFS S (fun h' t' k S => slice_ab x a b ▸ h h' t' k S) (by rw [sizeLine_eq]; omega)) hs ht
theorem cut_ns {j : Int} {uj : Tok} {b : Nat} (S : FS ts g L m N s.heap) (hj : j = b) (hsz : x.length ≤ 5000)
    (h : ∀ h' t' k, FS ts g L m N h' → Q (.str ⟨(x.cps.toList.take b).toArray⟩ t') { s with heap := h', toks := k })
    (hs : subscripted slice false (.str x t) (.ref s.heap.objs.size) = operate [.ref s.heap.objs.size, .str x t] (getItem (.str x t) (.ref s.heap.objs.size)) := by with_unfolding_all rfl)
    (ht : ∀ r, letTemporaryGo value (.str x t) r = pure () := by intro _; with_unfolding_all rfl) :
    wpAny (model prog w) A (subscriptTail value slice (.str x t) (.ref s.heap.objs.size)) Q E { s with heap := s.heap.push { cls := .type "slice", data := .fields #[.none, .int j uj, .none] } } := by
  subst hj
  exact tail_of_ItemOn (SBH.sliceItem_ns keptFS S (fun h' t' k S => slice_b x b ▸ h h' t' k S) (by rw [sizeLine_eq]; omega)) hs ht
theorem cut_sn {i : Int} {ui : Tok} {a : Nat} (S : FS ts g L m N s.heap) (hi : i = a) (hsz : x.length ≤ 5000)
    (h : ∀ h' t' k, FS ts g L m N h' → Q (.str ⟨(x.cps.toList.drop a).toArray⟩ t') { s with heap := h', toks := k })
    (hs : subscripted slice false (.str x t) (.ref s.heap.objs.size) = operate [.ref s.heap.objs.size, .str x t] (getItem (.str x t) (.ref s.heap.objs.size)) := by with_unfolding_all rfl)
    (ht : ∀ r, letTemporaryGo value (.str x t) r = pure () := by intro _; with_unfolding_all rfl) :
    wpAny (model prog w) A (subscriptTail value slice (.str x t) (.ref s.heap.objs.size)) Q E { s with heap := s.heap.push { cls := .type "slice", data := .fields #[.int i ui, .none, .none] } } := by
  subst hi
  exact tail_of_ItemOn (SBH.sliceItem_sn keptFS S (fun h' t' k S => slice_a x a ▸ h h' t' k S) (by rw [sizeLine_eq]; omega)) hs ht
end
end Mine
namespace Mine

def findFrom (P : Nat → Bool) : Nat → Nat → Option Nat
  | 0, _ => none
  | n + 1, a => if P a = true then some a else findFrom P n (a + 1)

abbrev rngO (a b : Int) (t u v : Tok) : Obj := { cls := .type "range", data := .fields #[.int a t, .int b u, .int 1 v] }
section
variable {prog : Program} {w : World} {A : Around} {E : Value → Shared → Prop} {s : Shared} {ts : List TabI} {g : Heap} {L : Addr} {m : Str → Option Value} {N : List (Addr × Obj)} {Q : Value → Shared → Prop}
theorem range2_FS {a b : Int} {t u : Tok} (S : FS ts g L m N s.heap) (h : ∀ r v h' tk, FS ts g L m ((r, rngO a b t u v) :: N) h' → Q (.ref r) { s with heap := h', toks := tk }) :
    wpAny (model prog w) A (call (.type "range") [.int a t, .int b u]) Q E s := call_range_2 (h _ _ _ _ (S.push _))
theorem range1_FS {b : Int} {u : Tok} (S : FS ts g L m N s.heap) (h : ∀ r t v h' tk, FS ts g L m ((r, rngO 0 b t u v) :: N) h' → Q (.ref r) { s with heap := h', toks := tk }) :
    wpAny (model prog w) A (call (.type "range") [.int b u]) Q E s := call_range_1 (h _ _ _ _ _ (S.push _))
end
/-- a call of a def of the ground -/
theorem callG {M : Model} {A : Around} {E : Value → Shared → Prop} {s : Shared} {gh : Heap} {ts : List TabI} {env : Env} {pos : Pos} {f : Addr} {o : Obj} {fd : FuncData} {e : Expr} {rest : List Expr} {Q : Value → Shared → Prop} (ho : gh.get? f = some o) (hdat : o.data = .func fd)
    (h : wpAny M A (spliced (backTo pos (starEach (e :: rest) env))) (fun vs s₁ => Bg gh ts s₁.heap ∧ wpAny M A (call (.ref f) vs) Q E s₁) E s)
    (he : starEach (e :: rest) env = (false, eval e env) :: starEach rest env := by rfl) :
    wpAny M A (callWith pos (.ref f) [] (backTo pos (starEach (e :: rest) env)) []) Q E s :=
  callWith_def hdat (wpAny_mono h (fun vs s₁ h₁ => ⟨h₁.1.st _ _ ho, h₁.2⟩) fun _ _ x => x) he
theorem strEq_of {l : List Nat} {y : Str} (h : decide (l = y.cps.toList) = true) : ((⟨l.toArray⟩ : Str) == y) = true := by
  have := of_decide_eq_true h
  subst this
  simp
theorem strNe_of {l : List Nat} {y : Str} (h : ¬ decide (l = y.cps.toList) = true) : ¬ ((⟨l.toArray⟩ : Str) == y) = true := fun q => h (by
  have := eq_of_beq q
  subst this
  simp)
section
variable {M : Model} {A : Around} {E : Value → Shared → Prop} {s : Shared} {gh g : Heap} {ts : List TabI} {mg mb : Str → Option Value} {env : Env} {m : Str → Option Value} {N : List (Addr × Obj)} {name : Str} {params : Arguments} {body : List Stmt} {scope : Scope} {pos : Pos} {clos : List (Str × Addr)}
/-- a def with one default, an int -/
theorem eDef1 {kinds : List (Str × NameKind)} {cells : List (Str × Addr)} {eq qual : Str} {t : TabI} {i : Int} {k : Nat} {dp : Pos} {Q : Flow → Shared → Prop}
    (e : EnvOk env kinds cells eq (.ref t.c)) (S : FS ts g env.locals m N s.heap) (B : Bg gh ts g) (G : Gd gh mg mb) (ht : t ∈ ts) (hu : ∀ t' ∈ ts, t'.P = t.P → t' = t) (hC : CodeHd gh t.c t.P)
    (hqq : eq ++ name = qual) (hl : kinds.lookup name = some .local)
    (hq : ∀ q ∈ t.qs, q.1.line = pos.line → q.1.col = pos.col → q.2 = qual) (hqm : (pos, qual) ∈ t.qs)
    (hcl : closureFor scope env = pure clos) (hd : params.defaults = [.Constant (.int i) k dp]) (hk0 : params.kw_defaults = []) (ha : annTrees params none env = [])
    (h : ∀ f T td cv ctv doc h' tk, FS ts g env.locals m ((f, { cls := .type "function", data := .func (kdv_fn name qual params (.stmts body) scope clos (.ref T) doc ((mg "__name__").getD .none) cv ctv) }) :: (T, tpl [.int i td] 0) :: N) h' → CodeC h' cv qual →
      wpAny M A (storeName env name (.ref f)) (fun _ s'' => Q .next s'') E { s with heap := h', toks := tk }) :
    wpAny M A (exec (.FunctionDef name params body [] none [] scope none name pos) env) Q E s := by
  refine kdv_def (by rw [hd]; rfl) hk0 ha ?_
  rw [hd]
  refine kdv_all1 (wpAny_Constant_int (kdv_all0 ?_))
  rw [makeFunction_eq]
  simp only [List.zip_nil_right, List.filterMap_nil, List.isEmpty_nil, List.isEmpty_cons, if_true, Bool.false_eq_true, if_false, pure_bind]
  refine wpAny_bind (wpAny_newTextTuple ?_)
  have S1 := S.push (tpl [.int i s.toks] 0)
  have hqn : qualnameIn env name name = qual := by
    unfold qualnameIn
    rw [e.kindOf hl, e.qual]; exact hqq
  rw [hqn]
  exact mk_fn e S1 B G ht hu hC hq hqm hcl fun f cv ctv doc h' tk S' hc' => h f _ _ cv ctv doc h' tk S' hc'
end
end Mine
namespace Mine

/-! ## comprehensions: a frame within a frame -/
section
variable {ts : List TabI} {g h : Heap} {L L' : Addr} {m m' : Str → Option Value} {N : List (Addr × Obj)}
theorem FS.inner (S : FS ts g L m N h) (hL' : h.Ns L' m') (hne : L' ≠ L) (hge : g.objs.size ≤ L') (hN : ∀ p ∈ N, p.1 ≠ L') :
    ∃ oL, NoCode oL ∧ (∀ h'' : Heap, h''.get? L = some oL → h''.Ns L m) ∧ FS ts g L' m' ((L, oL) :: N) h := by
  obtain ⟨oL, es, ep, e, hd, r⟩ := S.ns
  refine ⟨oL, Or.inr (fun vs q => by rw [hd] at q; cases q), fun h'' e'' => ⟨oL, es, ep, e'', hd, r⟩, S.ext, hL', hge, fun p hp => ?_, List.pairwise_cons.mpr ⟨fun p hp => .inl (Ne.symm (S.news p hp).2.1), S.nd⟩, S.tb⟩
  rcases List.mem_cons.mp hp with rfl | hp
  · exact ⟨e, Ne.symm hne, .inl S.above⟩
  · exact ⟨(S.news p hp).1, hN p hp, (S.news p hp).2.2⟩
theorem FS.leave {oL : Obj} {N₁ : List (Addr × Obj)} (S : FS ts g L' m' (N₁ ++ (L, oL) :: N) h) (hc : NoCode oL) (hns : ∀ h'' : Heap, h''.get? L = some oL → h''.Ns L m) :
    ∃ oL', NoCode oL' ∧ FS ts g L m ((L', oL') :: (N₁ ++ N)) h := by
  obtain ⟨o', es, ep, e, hd, r⟩ := S.ns
  have A := S.news (L, oL) (by simp)
  have hge : g.objs.size ≤ L := S.new (p := (L, oL)) (by simp) hc
  have nd' := List.pairwise_append.mp S.nd
  have hpre : ∀ p ∈ N₁, p.1 ≠ L := fun p hp => (nd'.2.2 p hp (L, oL) (.head _)).elim id fun c => absurd c.2 hc.not
  have hpost : ∀ p ∈ N, p.1 ≠ L := fun p hp => ((List.pairwise_cons.mp nd'.2.1).1 p hp).elim Ne.symm fun c => absurd c.1 hc.not
  have hmem : ∀ p ∈ N₁ ++ N, p ∈ N₁ ++ (L, oL) :: N := fun p hp => by
    rcases List.mem_append.mp hp with q | q
    · exact List.mem_append_left _ q
    · exact List.mem_append_right _ (.tail _ q)
  refine ⟨o', Or.inr (fun vs q => by rw [hd] at q; cases q), S.ext, hns _ A.1, hge, fun p hp => ?_, List.pairwise_cons.mpr ⟨fun p hp => .inl (Ne.symm (S.news p (hmem p hp)).2.1), ?_⟩, S.tb⟩
  · rcases List.mem_cons.mp hp with rfl | hp
    · exact ⟨e, Ne.symm A.2.1, .inl S.above⟩
    · refine ⟨(S.news p (hmem p hp)).1, ?_, (S.news p (hmem p hp)).2.2⟩
      rcases List.mem_append.mp hp with q | q
      · exact hpre p q
      · exact hpost p q
  · exact S.nd.sublist ((List.sublist_cons_self (L, oL) N).append_left N₁)
end

section
variable {M : Model} {A : Around} {E : Value → Shared → Prop} {s : Shared} {env : Env}
theorem wpAny_compG {e : Expr} {scope : Scope} {pos : Pos} {newAcc first : Sem Value} {gg : Comprehension} {gs : List Comprehension} {Q : Value → Shared → Prop} {clos : List (Str × Addr)} {names' : List (Str × NameKind)}
    (hcl : clausesOf e = gg :: gs) (hs : ∀ x, foldedSetIterable gg.iter env x = pure x) (hclos : closureFor scope env = pure clos) (hkind : scope.kind = .function)
    (hn' : (scope.names.map fun (n, k) => if (k == .free && env.scope.kind == .function && env.kindOf n == some .cell) = true then (n, NameKind.cell) else (n, k)) = names')
    (hnames : ∀ x ∈ scope.names, x.2 = .local → names'.lookup x.1 = some .local)
    (h : wpAny M A first (fun x s₁ => wpAny M A (pyIter x) (fun it s₂ => wpAny M A newAcc (fun acc s₃ =>
      wpAny M A (newFunctionEnv scope env.globals clos [] env.qual none .none (some env)) (fun cenv s₄ =>
        codeAny M A (.compStart e 0 it acc { cenv with scope := { scope with names := names' } }) (fun r s' => ∃ m, s'.heap.Ns cenv.locals m ∧ ∀ h', Heap.SameBut cenv.locals s'.heap h' →
          match r with | .ok _ => Q acc { s' with heap := h' } | .error x => wpAny M A (passOn "comprehension.variables-let-go" x { cenv with scope := { scope with names := names' } }) Q E { s' with heap := h' }) s₄) E s₃) E s₂) E s₁) E s) :
    wpAny M A (comprehension e scope env pos newAcc false first) Q E s := by
  unfold comprehension
  rw [hclos, hcl]
  refine wpAny_bind (wpAny_mono h (fun x s₁ h₁ => wpAny_bind (wpAny_standAt (wpAny_bind (wpAny_of_eq (hs x) (wpAny_bind (wpAny_holding (wpAny_mono h₁ (fun it s₂ h₂ =>
    wpAny_standIf (wpAny_bind (wpAny_mono h₂ (fun acc s₃ h₃ => wpAny_bind (wpAny_pure (wpAny_bind (wpAny_mono h₃ (fun cenv s₄ h₄ => ?_) fun _ _ h' => h')))) fun _ _ h' => h')))
      fun _ _ h' => h'))))))) fun _ _ h' => h')
  dsimp only
  rw [hn']
  have hv : ∀ x ∈ (scope.names.filter fun x => (x.2 == .local || x.2 == .cell) && x.1 != (".0" : Str)).reverse, x.2 = .local →
      Env.kindOf { cenv with scope := { scope with names := names' } } x.1 = some .local := fun x hx hl => hnames x (List.mem_filter.mp (List.mem_reverse.mp hx)).1 hl
  refine wpAny_holding (wpAny_bind (wpAny_attempt (wpAny_holding (wpAny_run (codeAny_mono h₄ fun r s' hr => ?_)))))
  obtain ⟨m, hn, hr⟩ := hr
  cases r with
  | ok f => exact wpAny_bind (wpAny_holding (wpAny_comp_letGo (cenv := { cenv with scope := { scope with names := names' } }) hkind _ s' m hv hn fun h' m' _ hs' => wpAny_pure (hr h' hs')))
  | error x => exact wpAny_bind (wpAny_holding (wpAny_comp_letGo (cenv := { cenv with scope := { scope with names := names' } }) hkind _ s' m hv hn fun h' m' _ hs' => hr h' hs'))
end

/-- the tests of a comprehension -/
abbrev tests (ifs : List Expr) (env : Env) : Sem Bool := forIn ifs true fun c r => if r = true then do let ok ← isTrue c env (eval c env); pure (ForInStep.yield ok) else pure (ForInStep.yield r)

section
variable {prog : Program} {w : World} {A : Around} {s : Shared} {ts : List TabI} {g : Heap} {K₀ : List (Addr × Obj)}

theorem append_FS {E : Value → Shared → Prop} {L : Addr} {m : Str → Option Value} {pre post : List (Addr × Obj)} {D : Addr} {ys : List Value} {n : Nat} {y : Value} {Q : Value → Shared → Prop} (S : FS ts g L m (pre ++ (D, lst ys n) :: post) s.heap) (hsz : ys.length ≤ 5000)
    (h : ∀ h' n', FS ts g L m (pre ++ (D, lst (ys ++ [y]) n') :: post) h' → Q .none { s with heap := h' }) :
    wpAny (model prog w) A (call (.builtin "list.append") [.ref D, y]) Q E s := by
  have ho := (S.news (D, lst ys n) (by simp)).1
  refine wpAny_list_append_plain (items := ys.toArray) ⟨n, ho⟩ (fun h' hp hs => ?_) (by rw [List.size_toArray, sizeLine_eq]; omega)
  obtain ⟨n', e⟩ := hp
  refine h h' n' (S.turn hs ?_ (noCode_cls rfl))
  rw [e]; simp

theorem comp_walks {R : Result → Shared → Prop} {elt iter : Expr} {x : Str} {px pos : Pos} {ifs : List Expr} {scope : Scope} {cenv : Env} {kinds : List (Str × NameKind)} {cells : List (Str × Addr)} {qual : Str} {code : Value}
    {I D : Addr} {fp : List Addr} {n nD : Nat} {P : Nat → Value → Prop} {St : Nat → Heap → Prop} {oI : Obj} {v0 : Option Value} {N0 : List (Addr × Obj)}
    (W : Walks prog w A I fp [I] n P St)
    (hio : ∀ i h, St i h → ∃ o, h.get? I = some o ∧ NoCode o)
    (hfp : ∀ o i h h' m m' N N', FS ts g cenv.locals m (N ++ (I, o) :: K₀) h → FS ts g cenv.locals m' (N' ++ (I, o) :: K₀) h' → St i h → St i h')
    (e : EnvOk cenv kinds cells qual code) (hx : kinds.lookup x = some .local)
    (S : FS ts g cenv.locals (amap [x] [v0]) (N0 ++ (D, lst [] nD) :: (I, oI) :: K₀) s.heap) (hst : St 0 s.heap)
    (J : Nat → List Value → Prop) (h0 : J 0 []) (hJ : ∀ i ys, J i ys → ys.length ≤ 5000)
    (step : ∀ i v ys N₁ nD pI h tk (E' : Value → Shared → Prop), i < n → P i v → J i ys → FS ts g cenv.locals (amap [x] [some v]) (N₁ ++ (D, lst ys nD) :: pI :: K₀) h →
      wpAny (model prog w) A (tests ifs cenv) (fun ok s₃ =>
        if ok = true then wpAny (model prog w) A (eval elt cenv) (fun y s₄ => ∃ N₂ vx h4 tk4, s₄ = { s with heap := h4, toks := tk4 } ∧ FS ts g cenv.locals (amap [x] [vx]) (N₂ ++ (D, lst ys nD) :: pI :: K₀) h4 ∧ J (i + 1) (ys ++ [y])) E' s₃
        else ∃ N₂ vx h4 tk4, s₃ = { s with heap := h4, toks := tk4 } ∧ FS ts g cenv.locals (amap [x] [vx]) (N₂ ++ (D, lst ys nD) :: pI :: K₀) h4 ∧ J (i + 1) ys) E' { s with heap := h, toks := tk })
    (done : ∀ ys N₁ nD v h tk, J n ys → FS ts g cenv.locals (amap [x] [v]) (N₁ ++ (D, lst ys nD) :: K₀) h → R (.ok .next) { s with heap := h, toks := tk }) :
    codeAny (model prog w) A (.compLoop (.ListComp elt [⟨.Name x px, iter, ifs, 0⟩] scope pos) 0 (.ref I) (.ref D) cenv) R s := by
  refine codeAny_compLoop_tests (fun k s' => ∃ i ys N₁ v nD o h tk, s' = { s with heap := h, toks := tk } ∧ k = n - i ∧ i ≤ n ∧ J i ys ∧ FS ts g cenv.locals (amap [x] [v]) (N₁ ++ (D, lst ys nD) :: (I, o) :: K₀) h ∧ St i h) ?_ n
    ⟨0, [], N0, v0, nD, oI, s.heap, s.toks, rfl, rfl, Nat.zero_le _, h0, S, hst⟩
  rintro k s' ⟨i, ys, N₁, vo, nD, o, h, tk, rfl, rfl, hin, hJi, S₁, hst₁⟩
  have S₁' : FS ts g cenv.locals (amap [x] [vo]) ((N₁ ++ [(D, lst ys nD)]) ++ (I, o) :: K₀) h := by simpa using S₁
  have hno : NoCode o := by
    obtain ⟨o', e, hc⟩ := hio i h hst₁
    have e2 := (S₁.news (I, o) (by simp)).1
    rw [e] at e2; cases e2; exact hc
  by_cases hlt' : i < n
  · refine W.item i _ _ _ hlt' hst₁ fun v h' tk' hP hst' hkp => ?_
    obtain ⟨o', ho', hno'⟩ := hio _ _ hst'
    have S₂ := S₁'.next hno ho' (fun b ob hb e => hkp b ob (by simpa using hb) e)
    refine wpAny_assign_Name (wpAny_storeName_local (e.kindOf hx) S₂.ns (fun h₂ hn hs => ?_) (by rw [e.kind]; rfl))
    have S₃ := amap_set [x] [vo] 0 x v (by simp) (by simp) rfl ▸ S₂.set hn hs
    dsimp only [List.set] at S₃
    have hst₃ : St (i + 1) h₂ := hfp _ _ _ _ _ _ _ _ S₂ S₃ hst'
    have S₄ : FS ts g cenv.locals (amap [x] [some v]) (N₁ ++ (D, lst ys nD) :: (I, o') :: K₀) h₂ := by simpa using S₃
    have hturn : ∀ N₂ vx h4 ys' nD', FS ts g cenv.locals (amap [x] [vx]) (N₂ ++ (D, lst ys' nD') :: (I, o') :: K₀) h4 → St (i + 1) h4 := fun N₂ vx h4 ys' nD' S5 =>
      hfp o' _ _ _ _ _ _ (N₂ ++ [(D, lst ys' nD')]) S₃ (by simpa using S5) hst₃
    refine wpAny_mono (step i v ys N₁ nD (I, o') h₂ (tk' + 1) _ hlt' hP hJi S₄) (fun ok s₃ hf => ?_) fun _ _ e => e
    cases ok with
    | false =>
      simp only [Bool.false_eq_true, if_false] at hf ⊢
      obtain ⟨N₂, vx, h4, tk4, rfl, S5, hJ5⟩ := hf
      exact ⟨n - (i + 1), by omega, i + 1, ys, N₂, vx, nD, o', h4, tk4, rfl, rfl, hlt', hJ5, S5, hturn _ _ _ _ _ S5⟩
    | true =>
      simp only [if_true] at hf ⊢
      refine wpAny_mono hf (fun y s₄ hf4 => ?_) fun _ _ e => e
      obtain ⟨N₂, vx, h4, tk4, rfl, S5, hJ5⟩ := hf4
      refine append_FS S5 (hJ _ _ hJi) fun h5 n5 S6 => ?_
      exact ⟨n - (i + 1), by omega, i + 1, ys ++ [y], N₂, vx, n5, o', h5, tk4, rfl, rfl, hlt', hJ5, S6, hturn _ _ _ _ _ S6⟩
  · obtain rfl : i = n := by omega
    refine W.done _ _ _ hst₁ fun h' tk' hkp => ?_
    have S₂ := S₁'.but hno fun b ob hb e => hkp b ob (by simpa using hb) e
    exact done ys N₁ nD vo h' tk' hJi (by simpa using S₂)

variable {E : Value → Shared → Prop} {env : Env} {kinds : List (Str × NameKind)} {cells : List (Str × Addr)} {qual : Str} {code : Value} {m : Str → Option Value} {N : List (Addr × Obj)}

/-- the rest of a list comprehension, its source an iterator that walks -/
theorem compTail {elt iter : Expr} {x : Str} {px pos : Pos} {ifs : List Expr} {scope : Scope} {clos : List (Str × Addr)} {names' : List (Str × NameKind)} {Q : Value → Shared → Prop}
    {I : Addr} {fp : List Addr} {n : Nat} {P : Nat → Value → Prop} {St : Nat → Heap → Prop} {oI : Obj}
    (W : Walks prog w A I fp [I] n P St)
    (hio : ∀ i h, St i h → ∃ o, h.get? I = some o ∧ NoCode o)
    (hfp : ∀ o i h h' L m m' N₁ N₂ K, FS ts g L m (N₁ ++ (I, o) :: (K ++ N)) h → FS ts g L m' (N₂ ++ (I, o) :: (K ++ N)) h' → St i h → St i h')
    (e : EnvOk env kinds cells qual code) (S : FS ts g env.locals m ((I, oI) :: N) s.heap) (hst : ∀ h, h.get? I = some oI → (∀ b o, s.heap.get? b = some o → h.get? b = some o) → St 0 h)
    (hnc : ∀ x ∈ scope.names, x.2 ≠ .cell) (hx : names'.lookup x = some .local) (hkind : scope.kind = .function)
    (J : Nat → List Value → Prop) (h0 : J 0 []) (hJ : ∀ i ys, J i ys → ys.length ≤ 5000)
    (step : ∀ cenv, EnvOk cenv names' clos qual code → ∀ i v ys N₁ N₂ h tk (E' : Value → Shared → Prop), i < n → P i v → J i ys → FS ts g cenv.locals (amap [x] [some v]) (N₁ ++ (N₂ ++ N)) h →
      wpAny (model prog w) A (tests ifs cenv) (fun ok s₃ =>
        if ok = true then wpAny (model prog w) A (eval elt cenv) (fun y s₄ => ∃ N₁' vx h4 tk4, s₄ = { s with heap := h4, toks := tk4 } ∧ FS ts g cenv.locals (amap [x] [vx]) (N₁' ++ (N₂ ++ N)) h4 ∧ J (i + 1) (ys ++ [y])) E' s₃
        else ∃ N₁' vx h4 tk4, s₃ = { s with heap := h4, toks := tk4 } ∧ FS ts g cenv.locals (amap [x] [vx]) (N₁' ++ (N₂ ++ N)) h4 ∧ J (i + 1) ys) E' { s with heap := h, toks := tk })
    (done : ∀ D ys nD h tk, J n ys → FS ts g env.locals m ((D, lst ys nD) :: N) h → Q (.ref D) { s with heap := h, toks := tk }) :
    wpAny (model prog w) A (newList []) (fun acc s₃ =>
      wpAny (model prog w) A (newFunctionEnv scope env.globals clos [] env.qual none .none (some env)) (fun cenv s₄ =>
        codeAny (model prog w) A (.compStart (.ListComp elt [⟨.Name x px, iter, ifs, 0⟩] scope pos) 0 (.ref I) acc { cenv with scope := { scope with names := names' } }) (fun r s' => ∃ m, s'.heap.Ns cenv.locals m ∧ ∀ h', Heap.SameBut cenv.locals s'.heap h' →
          match r with | .ok _ => Q acc { s' with heap := h' } | .error x => wpAny (model prog w) A (passOn "comprehension.variables-let-go" x { cenv with scope := { scope with names := names' } }) Q E { s' with heap := h' }) s₄) E s₃) E s := by
  refine newList_FS S (fun S2 => ?_) (by rw [sizeLine_eq]; simp)
  refine wpAny_newFunctionEnv hnc (fun x hx => by cases hx) (fun h3 hns hsb => ?_) hkind
  dsimp only at hns hsb ⊢
  have kp : ∀ b o, (s.heap.push (lst [] 0)).get? b = some o → h3.get? b = some o := fun b o e => hsb.extBut b o (Nat.ne_of_lt (Heap.lt_size e)) (Heap.get?_push_of_some _ e)
  have S3 := S2.keepAll kp
  have hlt : ∀ p ∈ (s.heap.objs.size, lst [] 0) :: (I, oI) :: N, p.1 ≠ (s.heap.push (lst [] 0)).objs.size := fun p hp => Nat.ne_of_lt (Heap.lt_size (S2.news p hp).1)
  obtain ⟨oL, hnoL, hnsL, S4⟩ := S3.inner hns (Nat.ne_of_gt S2.lt) S2.ext.size hlt
  have hm0 : (fun x => List.lookup x ([] : List (Str × Value)).reverse) = amap [x] [none] := by
    funext y; simp [amap]
  rw [hm0] at S4
  have S5 : FS ts g (s.heap.push (lst [] 0)).objs.size (amap [x] [none]) ([] ++ (s.heap.objs.size, lst [] 0) :: (I, oI) :: ((env.locals, oL) :: N)) h3 := S4.perm (by
    refine (List.Perm.swap _ _ _).trans (List.Perm.cons _ (List.Perm.swap _ _ _)))
  have hI3 : h3.get? I = some oI := (S3.news (I, oI) (.tail _ (.head _))).1
  have hst3 : St 0 h3 := hst h3 hI3 fun b o e => kp b o (Heap.get?_push_of_some _ e)
  have ec : EnvOk { (newEnv scope (s.heap.push (lst [] 0)).objs.size env.globals clos env.qual none .none (some env) builtinsNs) with scope := { scope with names := names' } } names' clos qual code := ⟨hkind, rfl, rfl, e.globals, e.builtins, e.qual, e.code⟩
  have hloop := comp_walks (s := { s with heap := h3, toks := s.toks + 0 }) (R := fun r s' => ∃ m, s'.heap.Ns (s.heap.push (lst [] 0)).objs.size m ∧ ∀ h', Heap.SameBut (s.heap.push (lst [] 0)).objs.size s'.heap h' →
          match r with | .ok _ => Q (.ref s.heap.objs.size) { s' with heap := h' } | .error x => wpAny (model prog w) A (passOn "comprehension.variables-let-go" x { (newEnv scope (s.heap.push (lst [] 0)).objs.size env.globals clos env.qual none .none (some env) builtinsNs) with scope := { scope with names := names' } }) Q E { s' with heap := h' })
    (elt := elt) (iter := iter) (px := px) (pos := pos) (ifs := ifs) (scope := scope) (cenv := { (newEnv scope (s.heap.push (lst [] 0)).objs.size env.globals clos env.qual none .none (some env) builtinsNs) with scope := { scope with names := names' } })
    W hio (fun o i h h' m m' N1 N2 F1 F2 st => hfp o i h h' _ m m' N1 N2 [(env.locals, oL)] F1 F2 st) ec hx S5 hst3 J h0 hJ
    (fun i v ys N₁ nD pI h tk E' hi hP hJi S' => ?_) (fun ys N₁ nD v h tk hJn S' => ?_)
  · exact codeAny_compStart_list hloop (W.self 0 _ _ _ hst3 hloop)
  · exact step _ ec i v ys N₁ [(s.heap.objs.size, lst ys nD), pI, (env.locals, oL)] h tk E' hi hP hJi S'
  · refine ⟨_, S'.ns, fun h' hsb' => ?_⟩
    have S6 : FS ts g (s.heap.push (lst [] 0)).objs.size (amap [x] [v]) ((N₁ ++ [(s.heap.objs.size, lst ys nD)]) ++ (env.locals, oL) :: N) h := by rw [List.append_assoc]; exact S'
    obtain ⟨oL', hno', S7⟩ := S6.leave hnoL hnsL
    have S8 := FS.but (N₁ := []) S7 hno' (h' := h') fun b ob hb e => hsb'.extBut b ob hb e
    refine done _ ys nD h' tk hJn (S8.sub ?_)
    simp

theorem ListComp_ {elt target iter : Expr} {ifs : List Expr} {rest : List Comprehension} {scope : Scope} {pos : Pos} {Q : Value → Shared → Prop} {M : Model} {clos : List (Str × Addr)} {names' : List (Str × NameKind)}
    (hclos : closureFor scope env = pure clos) (hkind : scope.kind = .function)
    (hn' : (scope.names.map fun (n, k) => if (k == .free && env.scope.kind == .function && env.kindOf n == some .cell) = true then (n, NameKind.cell) else (n, k)) = names')
    (hnames : ∀ x ∈ scope.names, x.2 = .local → names'.lookup x.1 = some .local)
    (h : wpAny M A (eval iter env) (fun x s₁ => wpAny M A (pyIter x) (fun it s₂ => wpAny M A (newList []) (fun acc s₃ =>
      wpAny M A (newFunctionEnv scope env.globals clos [] env.qual none .none (some env)) (fun cenv s₄ =>
        codeAny M A (.compStart (.ListComp elt (⟨target, iter, ifs, 0⟩ :: rest) scope pos) 0 it acc { cenv with scope := { scope with names := names' } })
          (fun r s' => ∃ m, s'.heap.Ns cenv.locals m ∧ ∀ h', Heap.SameBut cenv.locals s'.heap h' →
            match r with | .ok _ => Q acc { s' with heap := h' } | .error x => wpAny M A (passOn "comprehension.variables-let-go" x { cenv with scope := { scope with names := names' } }) Q E { s' with heap := h' }) s₄) E s₃) E s₂) E s₁) E s)
    (hs : ∀ x, foldedSetIterable iter env x = pure x := by intro _; rfl) :
    wpAny M A (eval (.ListComp elt (⟨target, iter, ifs, 0⟩ :: rest) scope pos) env) Q E s := by
  rw [eval_ListComp]; exact wpAny_compG rfl hs hclos hkind hn' hnames h

theorem comp_list {elt iter : Expr} {x : Str} {px pos : Pos} {ifs : List Expr} {scope : Scope} {clos : List (Str × Addr)} {names' : List (Str × NameKind)} {Q : Value → Shared → Prop} {l : Addr} {items : List Value}
    (hh : A.handled = none) (hl : ∀ h L m N', FS ts g L m (N' ++ N) h → h.IsList l items.toArray)
    (e : EnvOk env kinds cells qual code) (S : FS ts g env.locals m N s.heap)
    (hnc : ∀ x ∈ scope.names, x.2 ≠ .cell) (hx : names'.lookup x = some .local) (hkind : scope.kind = .function)
    (J : Nat → List Value → Prop) (h0 : J 0 []) (hJ : ∀ i ys, J i ys → ys.length ≤ 5000)
    (step : ∀ cenv, EnvOk cenv names' clos qual code → ∀ i v ys N₁ N₂ h tk (E' : Value → Shared → Prop), items[i]? = some v → J i ys → FS ts g cenv.locals (amap [x] [some v]) (N₁ ++ (N₂ ++ N)) h →
      wpAny (model prog w) A (tests ifs cenv) (fun ok s₃ =>
        if ok = true then wpAny (model prog w) A (eval elt cenv) (fun y s₄ => ∃ N₁' vx h4 tk4, s₄ = { s with heap := h4, toks := tk4 } ∧ FS ts g cenv.locals (amap [x] [vx]) (N₁' ++ (N₂ ++ N)) h4 ∧ J (i + 1) (ys ++ [y])) E' s₃
        else ∃ N₁' vx h4 tk4, s₃ = { s with heap := h4, toks := tk4 } ∧ FS ts g cenv.locals (amap [x] [vx]) (N₁' ++ (N₂ ++ N)) h4 ∧ J (i + 1) ys) E' { s with heap := h, toks := tk })
    (done : ∀ D ys nD h tk, J items.length ys → FS ts g env.locals m ((D, lst ys nD) :: N) h → Q (.ref D) { s with heap := h, toks := tk }) :
    wpAny (model prog w) A (pyIter (.ref l)) (fun it s₂ => wpAny (model prog w) A (newList []) (fun acc s₃ =>
      wpAny (model prog w) A (newFunctionEnv scope env.globals clos [] env.qual none .none (some env)) (fun cenv s₄ =>
        codeAny (model prog w) A (.compStart (.ListComp elt [⟨.Name x px, iter, ifs, 0⟩] scope pos) 0 it acc { cenv with scope := { scope with names := names' } }) (fun r s' => ∃ m, s'.heap.Ns cenv.locals m ∧ ∀ h', Heap.SameBut cenv.locals s'.heap h' →
          match r with | .ok _ => Q acc { s' with heap := h' } | .error x => wpAny (model prog w) A (passOn "comprehension.variables-let-go" x { cenv with scope := { scope with names := names' } }) Q E { s' with heap := h' }) s₄) E s₃) E s₂) E s := by
  have hL := hl _ _ _ [] S
  refine wpAny_pyIter_list hL ?_
  have hne : l ≠ s.heap.objs.size := by obtain ⟨o, ho, _⟩ := hL; exact Nat.ne_of_lt (Heap.lt_size ho)
  have S₁ := S.push { cls := .type "list_iterator", data := .fields #[.ref l, .int 0 0] }
  refine compTail (s := { s with heap := s.heap.push _ }) (Walks.list hh s.heap.objs.size l hne items.toArray) (fun i h e => let ⟨o, ho, hc, _⟩ := e.1; ⟨o, ho, noCode_cls hc⟩) (fun o i h h' L m m' N₁ N₂ K F1 F2 st => ?_) e S₁ (fun h hI kp => ?_) hnc hx hkind J h0 hJ
    (fun cenv ec i v ys N₁ N₂ h tk E' hin hP hJi S' => step cenv ec i v ys N₁ N₂ h tk E' (by simpa using hP) hJi S') (fun D ys nD h tk hJn S' => done D ys nD h tk (by simpa using hJn) S')
  · refine ⟨?_, hl _ _ _ (N₂ ++ (s.heap.objs.size, o) :: K) (by simpa using F2)⟩
    have e1 := (F1.news (s.heap.objs.size, o) (by simp)).1
    have e2 := (F2.news (s.heap.objs.size, o) (by simp)).1
    obtain ⟨o', ho', r⟩ := st.1
    exact ⟨o', e2.trans (e1.symm.trans ho'), r⟩
  · exact ⟨⟨_, hI, rfl, rfl⟩, hL.at fun o e => kp _ _ (Heap.get?_push_of_some _ e)⟩
end
end Mine
namespace Mine
theorem isTuple_tpl {h : Heap} {a : Addr} {vs : List Value} {n : Nat} (e : h.get? a = some (tpl vs n)) : h.IsTuple a vs.toArray := ⟨_, e, rfl, n, rfl⟩
section
variable {prog : Program} {w : World} {A : Around} {E : Value → Shared → Prop} {s : Shared} {value slice : Expr} {ts : List TabI} {g : Heap} {L : Addr} {m : Str → Option Value} {N : List (Addr × Obj)} {Q : Value → Shared → Prop}
theorem cut_list {l : Addr} {ops : List Value} {items : Array Value} {vl vu vs : Value} {lo hi st : Option Int} (S : FS ts g L m N s.heap) (hl : s.heap.IsList l items) (pl : IsPart vl lo) (pu : IsPart vu hi) (ps : IsPart vs st) (hst : st ≠ some 0) (hsz : items.size ≤ 5000)
    (h : ∀ D h', FS ts g L m ((D, lst (slicePick items lo hi st).toList 0) :: N) h' → Q (.ref D) { s with heap := h' })
    (hs : subscripted slice false (.ref l) (.ref s.heap.objs.size) = operate ops (getItem (.ref l) (.ref s.heap.objs.size)) := by with_unfolding_all rfl)
    (ht : ∀ r, letTemporaryGo value (.ref l) r = pure () := by intro _; with_unfolding_all rfl) :
    wpAny (model prog w) A (subscriptTail value slice (.ref l) (.ref s.heap.objs.size)) Q E { s with heap := s.heap.push { cls := .type "slice", data := .fields #[vl, vu, vs] } } := by
  refine subscriptTail_ops (Heap.IsList.typeIs (s := { s with heap := s.heap.push { cls := .type "slice", data := .fields #[vl, vu, vs] } }) (hl.push _)) list_getitem_lookup
    (wpAny_getItem_list_slice (hl.push _) (Heap.IsSliceOf.new ..) pl pu ps hst ?_ (by rw [sizeLine_eq]; omega)) hs ht
  have S1 := (S.push0 { cls := .type "slice", data := .fields #[vl, vu, vs] }).push (lst (slicePick items lo hi st).toList 0)
  exact h _ _ S1
end
end Mine
namespace Mine
def ofL (l : List Nat) : Str := ⟨l.toArray⟩
theorem ofL_append (a b : List Nat) : ofL a ++ ofL b = ofL (a ++ b) := by
  apply Str.ext'
  show a.toArray ++ b.toArray = (a ++ b).toArray
  simp
theorem ofL_toList (x : Str) : ofL x.cps.toList = x := by cases x; rfl
theorem toList_ofL (l : List Nat) : (ofL l).cps.toList = l := by simp [ofL]
theorem ofL_length (l : List Nat) : (ofL l).length = l.length := by simp [ofL, Str.length]
theorem ofL_inj {a b : List Nat} (h : ofL a = ofL b) : a = b := by rw [← toList_ofL a, h, toList_ofL]
theorem len_toList (x : Str) : x.cps.toList.length = x.length := by simp [Str.length]

theorem strs_snoc : ∀ {vs : List Value} {ys : List Str} (y : Str) (t : Tok), StrsAre vs ys → StrsAre (vs ++ [.str y t]) (ys ++ [y])
  | _, _, y, t, .nil => .cons y t .nil
  | _, _, y, t, .cons a b r => .cons a b (strs_snoc y t r)
def scanI (w : List Nat) : Nat → List Nat → List (Option Nat)
  | 0, _ => []
  | _ + 1, [] => []
  | f + 1, c :: r => if (c :: r).take w.length = w then none :: scanI w f ((c :: r).drop w.length) else some c :: scanI w f r
def rend : List (Option Nat) → List Nat
  | [] => []
  | none :: r => 46 :: 46 :: 46 :: rend r
  | some c :: r => c :: rend r
def keptI : List (Option Nat) → List Nat
  | [] => []
  | none :: r => keptI r
  | some c :: r => c :: keptI r
def gaps : List (Option Nat) → Nat
  | [] => 0
  | none :: r => gaps r + 1
  | some _ :: r => gaps r
def fillI (g : Nat → List Nat) : Nat → List (Option Nat) → List Nat
  | _, [] => []
  | t, none :: r => g t ++ fillI g (t + 1) r
  | t, some c :: r => c :: fillI g t r
theorem rend_append : ∀ a b, rend (a ++ b) = rend a ++ rend b
  | [], _ => rfl
  | none :: r, b => by simp [rend, rend_append r b]
  | some c :: r, b => by simp [rend, rend_append r b]
theorem kept_append : ∀ a b, keptI (a ++ b) = keptI a ++ keptI b
  | [], _ => rfl
  | none :: r, b => by simp [keptI, kept_append r b]
  | some c :: r, b => by simp [keptI, kept_append r b]
theorem gaps_append : ∀ a b, gaps (a ++ b) = gaps a + gaps b
  | [], _ => by simp [gaps]
  | none :: r, b => by simp [gaps, gaps_append r b]; omega
  | some c :: r, b => by simp [gaps, gaps_append r b]
theorem fill_append (g : Nat → List Nat) : ∀ t a b, fillI g t (a ++ b) = fillI g t a ++ fillI g (t + gaps a) b
  | t, [], b => by simp [fillI, gaps]
  | t, none :: r, b => by simp [fillI, gaps, fill_append g (t + 1) r b, Nat.add_assoc, Nat.add_comm 1]
  | t, some c :: r, b => by simp [fillI, gaps, fill_append g t r b]
theorem rend_len : ∀ a, (rend a).length ≤ 3 * a.length
  | [] => by simp [rend]
  | none :: r => by have := rend_len r; simp [rend]; omega
  | some c :: r => by have := rend_len r; simp [rend]; omega
theorem kept_len : ∀ a, (keptI a).length ≤ a.length
  | [] => by simp [keptI]
  | none :: r => by have := kept_len r; simp [keptI]; omega
  | some c :: r => by have := kept_len r; simp [keptI]; omega
theorem fill_len (g : Nat → List Nat) (hg : ∀ t, (g t).length ≤ 3) : ∀ t a, (fillI g t a).length ≤ 3 * a.length
  | t, [] => by simp [fillI]
  | t, none :: r => by have := fill_len g hg (t + 1) r; have := hg t; simp [fillI]; omega
  | t, some c :: r => by have := fill_len g hg t r; simp [fillI]; omega
theorem scan_len (w : List Nat) : ∀ f l, (scanI w f l).length ≤ f
  | 0, _ => by simp [scanI]
  | f + 1, [] => by simp [scanI]
  | f + 1, c :: r => by
    rw [scanI]
    split
    · have := scan_len w f ((c :: r).drop w.length); simp; omega
    · have := scan_len w f r; simp; omega
def cabG (ns : List Int) (t : Nat) : List Nat := [99, 97, 98].take (((ns.getD (t % ns.length) 0).fdiv 18).fmod 4).toNat
theorem cabG_len (ns : List Int) (t : Nat) : (cabG ns t).length ≤ 3 := by
  unfold cabG; rw [List.length_take]; exact Nat.min_le_right _ _
theorem fits_small {i : Int} (h0 : -1000000 ≤ i) (h1 : i ≤ 1000000) : fitsSsize i = true := by
  unfold fitsSsize; simp; omega
theorem itemL {x : Str} {i c : Nat} (h : x.cps.toList[i]? = some c) : Txt.item x (i : Int) = ofL [c] := by
  have hc : x.cps[i]? = some c := by simpa using h
  exact PyProof.Rows.item_meets (by omega) (by simpa using hc)
end Mine
namespace Mine
open Builtin Builtin.Str

/-! ## plain lists of signs: pieces, gaps -/
def dL : List Nat := [46, 46, 46]
def splitL : List Nat → List (List Nat)
  | [] => [[]]
  | c :: r => if (c :: r).take 3 = [46, 46, 46] then [] :: splitL (r.drop 2) else match splitL r with | [] => [[c]] | p :: ps => (c :: p) :: ps
termination_by l => l.length
decreasing_by all_goals (simp_wf <;> try omega)

theorem splitL_ne (l : List Nat) : splitL l ≠ [] := by
  cases l with
  | nil => simp [splitL]
  | cons c r =>
    rw [splitL]
    split
    · simp
    · split <;> simp
theorem splitL_cons_ne {c : Nat} {r p : List Nat} {ps : List (List Nat)} (h : (c :: r).take 3 ≠ [46, 46, 46]) (hr : splitL r = p :: ps) : splitL (c :: r) = (c :: p) :: ps := by
  rw [splitL, if_neg h, hr]
theorem splitL_dots (r : List Nat) : splitL (46 :: 46 :: 46 :: r) = [] :: splitL r := by
  rw [splitL, if_pos (by simp)]; simp

theorem split_end : ∀ (l : List Nat), (∀ k, (l.drop k).take 3 ≠ dL) → splitL l = [l]
  | [], _ => by simp [splitL]
  | c :: r, h => by
    have ih := split_end r fun k => h (k + 1)
    exact splitL_cons_ne (h 0) ih
theorem split_skip : ∀ (n : Nat) (l : List Nat), (∀ k, k < n → (l.drop k).take 3 ≠ dL) → (l.drop n).take 3 = dL → splitL l = l.take n :: splitL (l.drop (n + 3))
  | 0, l, _, h => by
    match l, h with
    | a :: b :: c :: r, h =>
      simp [dL] at h
      obtain ⟨rfl, rfl, rfl⟩ := h
      simp [splitL_dots]
  | n + 1, [], _, h => by simp [dL] at h
  | n + 1, c :: r, hn, h => by
    have ih := split_skip n r (fun k hk => hn (k + 1) (by omega)) h
    rw [splitL_cons_ne (hn 0 (by omega)) ih]
    simp

theorem at_iff (s sub : Str) (hi i : Nat) : StrLaws.At s sub hi i ↔ i + sub.length ≤ hi ∧ (s.cps.toList.drop i).take sub.length = sub.cps.toList := by
  unfold StrLaws.At
  rw [StrLaws.subAt_eq]
  simp
theorem dots_toList : dots.cps.toList = dL := by decide +kernel
theorem dots_len : dots.length = 3 := by decide
theorem noAt_take {x : Str} {k : Nat} (h : ¬ StrLaws.At x dots x.length k) : (x.cps.toList.drop k).take 3 ≠ dL := fun q => h (by
  rw [at_iff, dots_len, dots_toList]
  refine ⟨?_, q⟩
  have := congrArg List.length q
  simp [dL] at this
  have := len_toList x
  simp [Str.length] at *
  omega)

theorem parts_split (x : Str) : ∀ (cuts : List Nat) (a f : Nat), StrLaws.ChainG x dots x.length a cuts f → (∀ k, f ≤ k → ¬ StrLaws.At x dots x.length k) →
    (StrLaws.partsFrom x 3 a cuts).map (fun s => s.cps.toList) = splitL (x.cps.toList.drop a)
  | [], a, f, h, hn => by
    obtain rfl : f = a := h
    rw [split_end]
    · simp only [StrLaws.partsFrom, List.map_cons, List.map_nil, StrLaws.strSub_toList]
      rw [List.take_of_length_le (by simp [Str.length])]
    · intro k
      rw [List.drop_drop]
      exact noAt_take (hn _ (by omega))
  | c :: r, a, f, h, hn => by
    obtain ⟨h1, h2, h3, h4⟩ := h
    rw [dots_len] at h4
    have ih := parts_split x r (c + 3) f h4 hn
    rw [at_iff, dots_len, dots_toList] at h2
    rw [split_skip (c - a) (x.cps.toList.drop a)]
    · simp only [StrLaws.partsFrom, List.map_cons, StrLaws.strSub_toList]
      rw [ih, List.drop_drop]
      congr 3
      omega
    · intro k hk
      rw [List.drop_drop]
      exact noAt_take (h3 _ (by omega) (by omega))
    · rw [List.drop_drop, show a + (c - a) = c by omega]
      exact h2.2

theorem split_eq (x : Str) : (Txt.split x dots).map (fun s => s.cps.toList) = splitL x.cps.toList := by
  obtain ⟨f, hc, hn⟩ := StrLaws.occ_tight x dots (by decide)
  have hp := parts_split x _ 0 f hc hn
  have one : (∀ k, ¬ StrLaws.At x dots x.length k) → [x].map (fun s => s.cps.toList) = splitL x.cps.toList := fun h => by
    rw [split_end _ fun k => noAt_take (h k)]; rfl
  unfold Txt.split
  split
  · rename_i h
    refine one fun k hk => ?_
    have := hk.1
    rw [dots_len] at this h
    have hk2 := kind_pos x
    have hk1 : strKind dots = 1 := by decide +kernel
    simp [hk1] at h
    omega
  · split
    · rename_i h
      have he : occurrences x dots 0 x.length (x.length + 1) = [] := by simpa using h
      rw [he] at hc
      obtain rfl : f = 0 := hc
      exact one fun k => hn k (by omega)
    · rw [StrLaws.partsBetween_eq, dots_len, hp, List.drop_zero]

/-! ## what the function tells -/
def Go : List (List Nat) → List Nat → Prop
  | [], _ => True
  | w :: r, x => ∃ u v, x = u ++ w ++ v ∧ Go r v
theorem Go.mono : ∀ (r : List (List Nat)) (t v : List Nat), Go r v → Go r (t ++ v)
  | [], _, _, _ => trivial
  | w :: r, t, v, ⟨u, v', e, h⟩ => ⟨t ++ u, v', by rw [e]; simp, h⟩
theorem go_nil (r : List (List Nat)) (z : List Nat) : Go ([] :: r) z ↔ Go r z :=
  ⟨fun ⟨u, v, e, h⟩ => by rw [e]; simpa using Go.mono r u v h, fun h => ⟨[], z, by simp, h⟩⟩
theorem go_snoc : ∀ (r : List (List Nat)) (z : List Nat), Go (r ++ [[]]) z ↔ Go r z
  | [], z => ⟨fun _ => trivial, fun _ => ⟨[], z, by simp, trivial⟩⟩
  | w :: r, z => ⟨fun ⟨u, v, e, h⟩ => ⟨u, v, e, (go_snoc r v).mp h⟩, fun ⟨u, v, e, h⟩ => ⟨u, v, e, (go_snoc r v).mpr h⟩⟩

theorem find4_spec (got w : Str) {sp ep : Nat} (h1 : sp ≤ ep) (h2 : ep ≤ got.length) :
    (find4 got w sp ep = -1 ∧ ∀ i, sp ≤ i → ¬ StrLaws.At got w ep i) ∨
    ∃ i : Nat, find4 got w sp ep = i ∧ sp ≤ i ∧ StrLaws.At got w ep i ∧ ∀ k, sp ≤ k → k < i → ¬ StrLaws.At got w ep k := by
  have e1 : fromIndex got.length (sp : Int) = sp := by unfold fromIndex; rw [if_neg (by omega)]; omega
  have e2 : min (fromIndex got.length (ep : Int)) got.length = ep := by unfold fromIndex; rw [if_neg (by omega)]; omega
  unfold find4
  rw [e1, e2, StrLaws.occ_eq]
  rcases StrLaws.occ_first got w ep 1 (by omega) (List.range' sp (ep + 1 - sp)) sp (fun i hi => by have := List.mem_range'_1.mp hi; omega) with ⟨h0, hn⟩ | ⟨pre, a, post, e, h0, ha, hn⟩
  · refine .inl ⟨by rw [h0], fun i hlo hi => ?_⟩
    exact hn i (by have := hi.1; rw [List.mem_range'_1]; omega) hi
  · have hs := StrLaws.range'_split_from e
    refine .inr ⟨a, ?_, hs.1, ha, fun k hk0 hk => hn k (hs.2 k hk0 hk)⟩
    generalize (forIn (List.range' sp (ep + 1 - sp)) ((#[] : Array Nat), sp) (StrLaws.occBody got w ep 1)).run.fst = arr at h0
    have h1 : arr.toList[0]? = some a := by simpa using h0
    cases hL : arr.toList with
    | nil => rw [hL] at h1; cases h1
    | cons b t => rw [hL] at h1; simp at h1; rw [h1]

theorem cut_at {x w : List Nat} {sp ep : Nat} (h1 : sp ≤ ep) (h2 : ep ≤ x.length) {u v : List Nat} (e : (x.take ep).drop sp = u ++ w ++ v) :
    sp + u.length + w.length ≤ ep ∧ (x.drop (sp + u.length)).take w.length = w ∧ v = (x.take ep).drop (sp + u.length + w.length) := by
  have hl := congrArg List.length e
  simp at hl
  refine ⟨by omega, ?_, ?_⟩
  · have := congrArg (fun l => (l.drop u.length).take w.length) e
    simp only [List.append_assoc, List.drop_left, List.take_left, List.drop_drop] at this
    rw [List.drop_take, List.take_take] at this
    have h5 : min w.length (ep - (sp + u.length)) = w.length := by omega
    rw [h5] at this
    exact this
  · have := congrArg (fun l => l.drop (u.length + w.length)) e
    simp only [List.drop_drop] at this
    rw [← List.length_append, List.drop_left] at this
    rw [← this, List.length_append, Nat.add_assoc]
theorem at_cut {x w : List Nat} {sp ep i : Nat} (h1 : sp ≤ i) (h2 : i + w.length ≤ ep) (h3 : ep ≤ x.length) (h4 : (x.drop i).take w.length = w) :
    (x.take ep).drop sp = (x.take i).drop sp ++ w ++ (x.take ep).drop (i + w.length) := by
  apply List.ext_getElem?
  intro k
  have hlen : ((x.take i).drop sp).length = i - sp := by simp; omega
  rw [List.getElem?_drop, List.append_assoc, List.getElem?_append, hlen]
  by_cases hk : k < i - sp
  · rw [if_pos hk, List.getElem?_drop, List.getElem?_take, List.getElem?_take, if_pos (by omega), if_pos (by omega)]
  · rw [if_neg hk, List.getElem?_append]
    by_cases hk2 : k - (i - sp) < w.length
    · have h5 : w[k - (i - sp)]? = ((x.drop i).take w.length)[k - (i - sp)]? := by rw [h4]
      rw [if_pos hk2, h5, List.getElem?_take, List.getElem?_take, if_pos (by omega), if_pos hk2, List.getElem?_drop]
      congr 1
      omega
    · rw [if_neg hk2, List.getElem?_drop]
      congr 1
      omega

theorem emGo_iff (got : Str) {ep : Nat} (h2 : ep ≤ got.length) : ∀ (ws : List Str) (sp : Nat), sp ≤ ep → (emGo got ep ws sp = true ↔ Go (ws.map (fun s => s.cps.toList)) ((got.cps.toList.take ep).drop sp))
  | [], sp, _ => by simp [emGo, Go]
  | w :: r, sp, h1 => by
    have hx : ep ≤ got.cps.toList.length := by rw [len_toList]; exact h2
    have hwl : w.length = w.cps.toList.length := (len_toList w).symm
    rw [emGo]
    rcases find4_spec got w h1 h2 with ⟨e, hn⟩ | ⟨i, e, hi, ha, hn⟩
    · rw [e, if_pos (by decide)]
      refine ⟨fun q => (by cases q), fun ⟨u, v, ee, _⟩ => ?_⟩
      obtain ⟨a1, a2, _⟩ := cut_at h1 hx ee
      exact absurd ((at_iff _ _ _ _).mpr ⟨by rw [hwl]; exact a1, by rw [hwl]; exact a2⟩) (hn _ (by omega))
    · have ha' := (at_iff _ _ _ _).mp ha
      rw [e, if_neg (by omega)]
      have ih := emGo_iff got h2 r (i + w.length) ha'.1
      rw [show ((i : Int) + (w.length : Int)) = ((i + w.length : Nat) : Int) by omega, ih]
      rw [hwl] at ha' ⊢
      constructor
      · intro hg
        exact ⟨_, _, at_cut hi ha'.1 hx ha'.2, hg⟩
      · rintro ⟨u, v, ee, hg⟩
        obtain ⟨a1, a2, a3⟩ := cut_at h1 hx ee
        have hge : i ≤ sp + u.length := by
          rcases Nat.lt_or_ge (sp + u.length) i with q | q
          · exact absurd ((at_iff _ _ _ _).mpr ⟨by rw [hwl]; exact a1, by rw [hwl]; exact a2⟩) (hn _ (by omega) q)
          · exact q
        dsimp only at a1 a2 a3
        have e5 : v = ((got.cps.toList.take ep).drop (i + w.cps.toList.length)).drop (sp + u.length - i) := by
          rw [a3, List.drop_drop]
          congr 1
          omega
        rw [e5] at hg
        rw [← List.take_append_drop (sp + u.length - i) ((got.cps.toList.take ep).drop (i + w.cps.toList.length))]
        exact Go.mono _ _ _ hg
end Mine
namespace Mine
open Builtin Builtin.Str

/-- pieces one behind the other, any signs between two of them -/
def MT : List (List Nat) → List Nat → Prop
  | [], _ => False
  | [p], x => x = p
  | p :: q :: r, x => ∃ u v, x = p ++ (u ++ v) ∧ MT (q :: r) v

theorem mt_gap : ∀ (mid : List (List Nat)) (pn y : List Nat), (∃ u v, y = u ++ v ∧ MT (mid ++ [pn]) v) ↔ ∃ z, y = z ++ pn ∧ Go mid z
  | [], pn, y => by
    constructor
    · rintro ⟨u, v, e, h⟩
      obtain rfl : v = pn := h
      exact ⟨u, e, trivial⟩
    · rintro ⟨z, e, _⟩
      exact ⟨z, pn, e, rfl⟩
  | w :: r, pn, y => by
    have ih := mt_gap r pn
    have hmt : ∀ v, MT (w :: r ++ [pn]) v ↔ ∃ y', v = w ++ y' ∧ ∃ u' v', y' = u' ++ v' ∧ MT (r ++ [pn]) v' := by
      intro v
      cases hr : r ++ [pn] with
      | nil => simp at hr
      | cons a b =>
        show MT (w :: (r ++ [pn])) v ↔ _
        rw [hr]
        constructor
        · rintro ⟨u', v', e, h⟩; exact ⟨_, e, u', v', rfl, h⟩
        · rintro ⟨y', e, u', v', rfl, h⟩; exact ⟨u', v', e, h⟩
    constructor
    · rintro ⟨u, v, rfl, h⟩
      obtain ⟨y', rfl, h'⟩ := (hmt v).mp h
      obtain ⟨z, rfl, hg⟩ := (ih y').mp h'
      exact ⟨u ++ w ++ z, by simp, u, z, rfl, hg⟩
    · rintro ⟨z, rfl, u, v, rfl, hg⟩
      exact ⟨u, w ++ (v ++ pn), by simp, (hmt _).mpr ⟨_, rfl, (ih _).mpr ⟨v, rfl, hg⟩⟩⟩

theorem mt_two (p0 : List Nat) (mid : List (List Nat)) (pn x : List Nat) : MT (p0 :: (mid ++ [pn])) x ↔ ∃ z, x = p0 ++ z ++ pn ∧ Go mid z := by
  have h : MT (p0 :: (mid ++ [pn])) x ↔ ∃ y, x = p0 ++ y ∧ ∃ u v, y = u ++ v ∧ MT (mid ++ [pn]) v := by
    cases hr : mid ++ [pn] with
    | nil => simp at hr
    | cons a b =>
      constructor
      · rintro ⟨u', v', e, h⟩; exact ⟨_, e, u', v', rfl, h⟩
      · rintro ⟨y', e, u', v', rfl, h⟩; exact ⟨u', v', e, h⟩
  rw [h]
  constructor
  · rintro ⟨y, rfl, h'⟩
    obtain ⟨z, rfl, hg⟩ := (mt_gap mid pn y).mp h'
    exact ⟨z, by simp, hg⟩
  · rintro ⟨z, rfl, hg⟩
    exact ⟨z ++ pn, by simp, (mt_gap mid pn _).mpr ⟨z, rfl, hg⟩⟩

theorem starts_iff (x y : Str) : Txt.startswith x y = true ↔ y.cps.toList <+: x.cps.toList := by
  unfold Txt.startswith
  rw [StrLaws.subAt_eq]
  simp only [Bool.and_eq_true, decide_eq_true_eq, beq_iff_eq, List.drop_zero, Nat.zero_add]
  constructor
  · rintro ⟨h1, h2⟩; rw [← h2]; exact List.take_prefix _ _
  · intro h
    refine ⟨by have := h.length_le; simpa [Str.length] using this, ?_⟩
    obtain ⟨t, e⟩ := h
    rw [← e, ← len_toList y, List.take_left]
theorem ends_iff (x y : Str) : Txt.endswith x y = true ↔ y.cps.toList <:+ x.cps.toList := by
  unfold Txt.endswith
  rw [StrLaws.subAt_eq]
  simp only [Bool.and_eq_true, decide_eq_true_eq, beq_iff_eq, Nat.zero_add]
  have hx := len_toList x
  have hy := len_toList y
  constructor
  · rintro ⟨h1, h2⟩
    rw [List.take_of_length_le (by simp only [List.length_drop]; omega)] at h2
    rw [← h2]; exact List.drop_suffix _ _
  · intro h
    have hl := h.length_le
    refine ⟨by omega, ?_⟩
    obtain ⟨t, e⟩ := h
    have ht : x.length - y.length = t.length := by
      have := congrArg List.length e
      rw [List.length_append] at this
      omega
    rw [ht, ← e, List.drop_left, ← hy, List.take_length]

theorem emEnd_iff (got : Str) (ws : List Str) (mid : List Str) (pn : Str) (sp : Nat) (hws : ws = mid ++ [pn]) :
    emEnd got ws sp = true ↔ sp + pn.length ≤ got.length ∧ pn.cps.toList <:+ got.cps.toList ∧ Go (mid.map (fun s => s.cps.toList)) ((got.cps.toList.take (got.length - pn.length)).drop sp) := by
  subst hws
  have hlast : (mid ++ [pn]).getLastD Str.empty = pn := by simp
  unfold emEnd
  rw [hlast]
  by_cases he : pn.length ≠ 0 ∧ Txt.endswith got pn = false
  · rw [if_pos he]
    refine ⟨fun q => (by cases q), fun ⟨_, h2, _⟩ => ?_⟩
    rw [(ends_iff got pn).mpr h2] at he
    exact absurd he.2 (by decide)
  · rw [if_neg he]
    have hsuf : pn.cps.toList <:+ got.cps.toList := by
      by_cases hz : pn.length = 0
      · have : pn.cps.toList = [] := List.eq_nil_of_length_eq_zero (by rw [len_toList]; exact hz)
        rw [this]; exact List.nil_suffix
      · exact (ends_iff got pn).mp (by
          cases hq : Txt.endswith got pn with
          | true => rfl
          | false => exact absurd ⟨hz, hq⟩ he)
    have hle : pn.length ≤ got.length := by
      have := hsuf.length_le
      rwa [len_toList, len_toList] at this
    by_cases hgt : (sp : Int) > (got.length : Int) - pn.length
    · rw [if_pos hgt]
      exact ⟨fun q => (by cases q), fun ⟨h1, _⟩ => by omega⟩
    · rw [if_neg hgt, show (got.length : Int) - (pn.length : Int) = ((got.length - pn.length : Nat) : Int) by omega, emGo_iff got (by omega) _ sp (by omega)]
      have hmid : Go (List.map (fun s : Str => s.cps.toList) (if pn.length = 0 then mid ++ [pn] else (mid ++ [pn]).dropLast)) ((got.cps.toList.take (got.length - pn.length)).drop sp) ↔
          Go (mid.map (fun s => s.cps.toList)) ((got.cps.toList.take (got.length - pn.length)).drop sp) := by
        by_cases hz : pn.length = 0
        · have : pn.cps.toList = [] := List.eq_nil_of_length_eq_zero (by rw [len_toList]; exact hz)
          rw [if_pos hz, List.map_append, List.map_cons, List.map_nil, this]
          exact go_snoc _ _
        · rw [if_neg hz, List.dropLast_concat]
      rw [hmid]
      exact ⟨fun h => ⟨by omega, hsuf, h⟩, fun h => h.2.2⟩

theorem emB_iff (want got : Str) : emB want got = true ↔ MT (splitL want.cps.toList) got.cps.toList := by
  rw [← split_eq]
  by_cases hoc : (occurrences want dots 0 want.length 1).isEmpty = true
  · have hs : Txt.split want dots = [want] := by
      have hn : ∀ k, ¬ StrLaws.At want dots want.length k := by
        rcases StrLaws.occ_head_from want dots 0 1 (by omega) with ⟨_, h⟩ | ⟨i, r, h, _⟩
        · exact fun k => h k (by omega)
        · rw [h] at hoc; cases hoc
      have h2 := split_eq want
      rw [split_end _ fun k => noAt_take (hn k)] at h2
      cases hq : Txt.split want dots with
      | nil => rw [hq] at h2; cases h2
      | cons a r =>
        rw [hq] at h2
        cases r with
        | nil =>
          simp only [List.map_cons, List.map_nil, List.cons.injEq, and_true] at h2
          rw [← ofL_toList a, h2, ofL_toList]
        | cons b r => simp at h2
    unfold emB
    rw [if_pos hoc, hs]
    show (want == got) = true ↔ got.cps.toList = want.cps.toList
    rw [beq_iff_eq]
    constructor
    · rintro rfl; rfl
    · intro h; rw [← ofL_toList got, h, ofL_toList]
  · have htwo := split_two want dots (by decide +kernel) (by simpa using hoc)
    unfold emB
    rw [if_neg hoc]
    obtain ⟨p0, l1, hl⟩ : ∃ p0 l1, Txt.split want dots = p0 :: l1 := by
      cases h : Txt.split want dots with
      | nil => rw [h] at htwo; simp at htwo
      | cons a b => exact ⟨a, b, rfl⟩
    obtain ⟨mid, pn, hm⟩ : ∃ mid pn, l1 = mid ++ [pn] := by
      rw [hl] at htwo
      have hne : l1 ≠ [] := by rintro rfl; simp at htwo
      exact ⟨l1.dropLast, l1.getLast hne, (List.dropLast_concat_getLast hne).symm⟩
    rw [hl, hm]
    change (if p0.length ≠ 0 ∧ Txt.startswith got p0 = false then false else emEnd got (if p0.length = 0 then p0 :: (mid ++ [pn]) else mid ++ [pn]) p0.length) = true ↔ MT (p0.cps.toList :: (mid ++ [pn]).map fun s => s.cps.toList) got.cps.toList
    rw [List.map_append, List.map_cons, List.map_nil, mt_two]
    have hlp := len_toList p0
    have hlg := len_toList got
    have hln := len_toList pn
    have core : (∃ z, got.cps.toList = p0.cps.toList ++ z ++ pn.cps.toList ∧ Go (mid.map fun s => s.cps.toList) z) ↔
        p0.cps.toList <+: got.cps.toList ∧ p0.length + pn.length ≤ got.length ∧ pn.cps.toList <:+ got.cps.toList ∧ Go (mid.map fun s => s.cps.toList) ((got.cps.toList.take (got.length - pn.length)).drop p0.length) := by
      constructor
      · rintro ⟨z, e, hg⟩
        have hl2 := congrArg List.length e
        simp only [List.length_append] at hl2
        refine ⟨⟨z ++ pn.cps.toList, by rw [e]; simp⟩, by omega, ⟨p0.cps.toList ++ z, e.symm⟩, ?_⟩
        have : (got.cps.toList.take (got.length - pn.length)).drop p0.length = z := by
          rw [e, show got.length - pn.length = (p0.cps.toList ++ z).length by rw [List.length_append]; omega, List.take_left, ← hlp, List.drop_left]
        rw [this]; exact hg
      · rintro ⟨⟨t, e1⟩, h2, ⟨t2, e2⟩, hg⟩
        refine ⟨_, ?_, hg⟩
        have hl2 := congrArg List.length e2
        simp only [List.length_append] at hl2
        have e3 : got.cps.toList.take (got.length - pn.length) = t2 := by
          rw [← e2, show got.length - pn.length = t2.length by omega, List.take_left]
        have e4 : t2.take p0.length = p0.cps.toList := by
          have h5 : got.cps.toList.take p0.length = p0.cps.toList := by rw [← e1, ← hlp, List.take_left]
          rw [← e3, List.take_take, Nat.min_eq_left (by omega)]; exact h5
        rw [e3, ← e4, List.take_append_drop, e2]
    rw [core]
    by_cases hs : p0.length ≠ 0 ∧ Txt.startswith got p0 = false
    · rw [if_pos hs]
      refine ⟨fun q => (by cases q), fun ⟨h1, _⟩ => ?_⟩
      rw [(starts_iff got p0).mpr h1] at hs
      exact absurd hs.2 (by decide)
    · rw [if_neg hs]
      have hpre : p0.cps.toList <+: got.cps.toList := by
        by_cases hz : p0.length = 0
        · have : p0.cps.toList = [] := List.eq_nil_of_length_eq_zero (by rw [len_toList]; exact hz)
          rw [this]; exact List.nil_prefix
        · exact (starts_iff got p0).mp (by
            cases hq : Txt.startswith got p0 with
            | true => rfl
            | false => exact absurd ⟨hz, hq⟩ hs)
      by_cases hz : p0.length = 0
      · have hnil : p0.cps.toList = [] := List.eq_nil_of_length_eq_zero (by rw [len_toList]; exact hz)
        rw [if_pos hz, emEnd_iff got (p0 :: (mid ++ [pn])) (p0 :: mid) pn p0.length rfl]
        rw [List.map_cons, hnil, go_nil]
        exact ⟨fun h => ⟨List.nil_prefix, h⟩, fun h => h.2⟩
      · rw [if_neg hz, emEnd_iff got _ mid pn p0.length rfl]
        exact ⟨fun h => ⟨hpre, h⟩, fun h => h.2⟩
end Mine
namespace Mine
section
variable {prog : Program} {w : World} {A : Around} {E : Value → Shared → Prop} {s : Shared} {ts : List TabI} {g : Heap} {L : Addr} {m : Str → Option Value}
theorem get_last {a : Addr} {vs : List Value} {n : Nat} {x : Value} {u : Tok} {Q : Value → Shared → Prop} (ho : s.heap.get? a = some (lst (vs ++ [x]) n)) (h : Q x s) : wpAny (model prog w) A (getItem (.ref a) (.int (-1) u)) Q E s := by
  refine wpAny_getItem_list_neg (isList_lst ho) (by decide) (by simp; omega) (by decide) ?_ h
  have e : ((-1 : Int) + ((vs ++ [x]).toArray.size : Int)).toNat = vs.length := by simp; omega
  rw [e]; simp
theorem set_last {a : Addr} {vs : List Value} {n : Nat} {x v : Value} {u : Tok} {pre post : List (Addr × Obj)} {Q : Unit → Shared → Prop} (S : FS ts g L m (pre ++ (a, lst (vs ++ [x]) n) :: post) s.heap)
    (h : ∀ h' n', FS ts g L m (pre ++ (a, lst (vs ++ [v]) n') :: post) h' → Q () { s with heap := h' }) : wpAny (model prog w) A (setItem (.ref a) (.int (-1) u) v) Q E s := by
  have ho := (S.news (a, lst (vs ++ [x]) n) (by simp)).1
  have hl := isList_lst ho
  have hd : (lst (vs ++ [x]) n).data = .seq (vs ++ [x]).toArray n := rfl
  unfold setItem
  try with_reducible refine wpAny_holding ?_
  first | refine wpAny_bind (wpAny_pure ?_) | skip
  refine wpAny_bind (wpAny_sequenceKey hl.typeIs (by decide) ?_)
  refine wpAny_bind (wpAny_callSpecial?_slot (name := Str.ofString "__setitem__") hl.typeIs slot_list_setitem
    (wpAny_call_entry slot_list_setitem hl.typeIs entry_list_setitem ?_ (args_list_setitem _ _ _)))
  show wpAny _ _ (Builtin.List.listSubscript? (.int (-1) u) >>= _) _ _ s
  refine wpAny_bind (wpAny_listSubscript_int (fitsIndex_neg (by decide) (by decide)) ?_)
  show wpAny _ _ ((Builtin.List.listItems (.ref a) >>= fun xs => pure ((seqIndex? (-1) xs.size).bind fun i => xs[i]?.map (i, ·))) >>= _) _ _ s
  refine wpAny_bind (wpAny_bind ?_)
  show wpAny _ _ (seqItems? (.ref a) >>= _) _ _ s
  refine wpAny_bind (wpAny_seqItems ho hd (wpAny_pure (wpAny_pure ?_)))
  have hidx : seqIndex? (-1) (vs ++ [x]).toArray.size = some vs.length := by simp [seqIndex?]; omega
  rw [hidx]
  have hx : (vs ++ [x]).toArray[vs.length]? = some x := by simp
  simp only [Option.bind_some, hx, Option.map_some]
  show wpAny _ _ (setSeqItemAt a vs.length v >>= _) _ _ s
  have hfin : ∃ n', (s.heap.update a (Obj.mapSeq (·.setIfInBounds vs.length v))).get? a = some (lst (vs ++ [v]) n') := by
    have e1 := IsL.update (n := n) ho (fun x => x.setIfInBounds vs.length v)
    have e2 : (vs ++ [x]).toArray.setIfInBounds vs.length v = (vs ++ [v]).toArray := by simp
    rw [e2] at e1
    exact ⟨_, e1⟩
  obtain ⟨n', hn'⟩ := hfin
  have S' := S.turn (Heap.SameBut.update ..) hn' (noCode_cls rfl)
  refine wpAny_bind (wpAny_setSeqItemAt ho hd ?_)
  first
    | exact wpAny_bind (wpAny_pure (wpAny_pure ⟨.none, rfl, wpAny_pure (h _ _ S')⟩))
    | exact wpAny_pure ⟨.none, rfl, wpAny_pure (h _ _ S')⟩
end
theorem cut_FS {M : Model} {A : Around} {E : Value → Shared → Prop} {s : Shared} {env : Env} {ts : List TabI} {g : Heap} {L : Addr} {m : Str → Option Value} {N : List (Addr × Obj)} {st : Stmt} {rest : List Stmt} {Q : Flow → Shared → Prop} (_S : FS ts g L m N s.heap) (m2 : Str → Option Value)
    (h1 : ∀ E', wpAny M A (exec st env) (fun f s' => match f with | .next => ∃ h tk, s' = { s with heap := h, toks := tk } ∧ FS ts g L m2 N h | f => Q f s') E' s)
    (h2 : ∀ h tk, FS ts g L m2 N h → wpAny M A (execs rest env) Q E { s with heap := h, toks := tk }) :
    wpAny M A (execs (st :: rest) env) Q E s :=
  cut_next (fun s' => ∃ h tk, s' = { s with heap := h, toks := tk } ∧ FS ts g L m2 N h) h1 (by rintro s' ⟨h, tk, rfl, S⟩; exact h2 h tk S)
end Mine
namespace Mine
theorem strs_rev : ∀ {vs : List Value} {ys : List Str}, StrsAre vs ys → StrsAre vs.reverse ys.reverse
  | _, _, .nil => .nil
  | _, _, .cons y t r => by
    rw [List.reverse_cons, List.reverse_cons]
    exact strs_snoc y t (strs_rev r)
theorem strs_mid {vs : List Value} {ys : List Str} (h : StrsAre vs ys) : StrsAre vs.tail.dropLast.reverse ys.tail.dropLast.reverse := by
  have h1 : StrsAre vs.tail ys.tail := by
    cases h with
    | nil => exact .nil
    | cons _ _ r => exact r
  rw [List.dropLast_eq_take, List.dropLast_eq_take, h1.length]
  exact strs_rev (h1.take' _)
theorem strs_last {vs : List Value} {ys : List Str} (h : StrsAre vs ys) (hne : ys ≠ []) : ∃ t, vs.getLast? = some (.str (ys.getLastD Str.empty) t) := by
  induction h with
  | nil => exact absurd rfl hne
  | cons y t r ih =>
    cases r with
    | nil => exact ⟨t, rfl⟩
    | cons y2 t2 r2 =>
      obtain ⟨t', e⟩ := ih (by simp)
      refine ⟨t', ?_⟩
      rw [List.getLast?_cons_cons, e]
      simp [List.getLastD_eq_getLast?]
theorem slice_mid (vs : List Value) : (slicePick vs.toArray (some (-2)) (some 0) (some (-1))).toList = vs.tail.dropLast.reverse := by
  unfold slicePick sliceBounds sliceRange
  simp only [List.size_toArray, Option.getD_some, show ¬ ((-1 : Int) > 0) by decide, if_false, show ((-2 : Int) < 0) by decide, if_true, show ¬ ((0 : Int) < 0) by decide]
  have hcount : (if max (-1) (min (-2 + (vs.length : Int)) ((vs.length : Int) - 1)) > max (-1) (min 0 ((vs.length : Int) - 1)) then
      (max (-1) (min (-2 + (vs.length : Int)) ((vs.length : Int) - 1)) - max (-1) (min 0 ((vs.length : Int) - 1)) - -1 - 1) / (- -1) else 0).toNat = vs.length - 2 := by
    split <;> simp <;> omega
  rw [hcount]
  apply List.ext_getElem?
  intro i
  have hmap : ((List.range (vs.length - 2)).map fun (k : Nat) => (max (-1) (min (-2 + (vs.length : Int)) ((vs.length : Int) - 1)) + -1 * (k : Int)).toNat).filterMap (vs.toArray[·]?) = (List.range (vs.length - 2)).map fun k => vs.getD (vs.length - 2 - k) .none := by
    rw [List.filterMap_map]
    have : ∀ (l : List Nat), (∀ k ∈ l, k < vs.length - 2) → l.filterMap ((fun x => vs.toArray[x]?) ∘ fun (k : Nat) => (max (-1) (min (-2 + (vs.length : Int)) ((vs.length : Int) - 1)) + -1 * (k : Int)).toNat) = l.map fun k => vs.getD (vs.length - 2 - k) .none := by
      intro l
      induction l with
      | nil => intro _; rfl
      | cons a r ih =>
        intro h
        have ha := h a (.head _)
        have e1 : (max (-1) (min (-2 + (vs.length : Int)) ((vs.length : Int) - 1)) + -1 * (a : Int)).toNat = vs.length - 2 - a := by omega
        rw [List.filterMap_cons, List.map_cons, ← ih fun k hk => h k (.tail _ hk)]
        simp only [Function.comp, e1]
        rw [List.getElem?_toArray, List.getElem?_eq_getElem (by omega)]
        simp [List.getD_eq_getElem?_getD, List.getElem?_eq_getElem (show vs.length - 2 - a < vs.length by omega)]
    exact this _ fun k hk => List.mem_range.mp hk
  rw [hmap, List.getElem?_map]
  by_cases hi : i < vs.length - 2
  · have hlen : vs.tail.dropLast.length = vs.length - 2 := by simp; omega
    rw [List.getElem?_range hi, List.getElem?_reverse (by omega), hlen, List.dropLast_eq_take, List.getElem?_take, if_pos (by simp; omega), List.getElem?_tail]
    have e2 : vs.length - 2 - 1 - i + 1 = vs.length - 2 - i := by omega
    rw [e2, List.getElem?_eq_getElem (by omega)]
    simp [List.getD_eq_getElem?_getD, List.getElem?_eq_getElem (show vs.length - 2 - i < vs.length by omega)]
  · rw [List.getElem?_eq_none (by simp; omega), List.getElem?_eq_none (by simp; omega)]
    rfl
end Mine
namespace Mine
def nxtW (word chars : Str) (st : Nat) : Option (Nat × Nat) :=
  (findFrom (fun p => decide ((chars.cps.toList.take (p + word.length)).drop p = word.cps.toList)) (chars.length + 1 - word.length - st) st).map fun p => (p, p + word.length)
inductive Expd : List (Option Nat) → List Nat → Prop
  | nil : Expd [] []
  | gap {r x} (g : List Nat) : Expd r x → Expd (none :: r) (g ++ x)
  | chr {r x} (c : Nat) : Expd r x → Expd (some c :: r) (c :: x)

/-! ## a search from a place on -/
theorem findFrom_none {P : Nat → Bool} : ∀ {n a : Nat}, findFrom P n a = none → ∀ k, a ≤ k → k < a + n → P k = false
  | 0, a, _, k, h1, h2 => by omega
  | n + 1, a, h, k, h1, h2 => by
    rw [findFrom] at h
    split at h
    · cases h
    · rename_i hp
      by_cases hk : k = a
      · subst hk; simpa using hp
      · exact findFrom_none h k (by omega) (by omega)
theorem findFrom_some {P : Nat → Bool} : ∀ {n a i : Nat}, findFrom P n a = some i → a ≤ i ∧ i < a + n ∧ P i = true ∧ ∀ k, a ≤ k → k < i → P k = false
  | 0, a, i, h => by cases h
  | n + 1, a, i, h => by
    rw [findFrom] at h
    split at h
    · rename_i hp
      cases h
      exact ⟨Nat.le_refl _, by omega, hp, fun k h1 h2 => by omega⟩
    · rename_i hp
      obtain ⟨h1, h2, h3, h4⟩ := findFrom_some h
      refine ⟨by omega, by omega, h3, fun k h5 h6 => ?_⟩
      by_cases hk : k = a
      · subst hk; simpa using hp
      · exact h4 k (by omega) h6

/-! ## the walk from the front, by places -/
def HitAt (w x : List Nat) (p : Nat) : Prop := p + w.length ≤ x.length ∧ (x.drop p).take w.length = w
theorem cut_hit {w x : List Nat} {p : Nat} : p + w.length ≤ x.length ∧ (x.take (p + w.length)).drop p = w ↔ HitAt w x p := by
  unfold HitAt
  rw [List.drop_take, Nat.add_sub_cancel_left]
theorem nxtW_none {wd tx : Str} {st : Nat} (h : nxtW wd tx st = none) : ∀ k, st ≤ k → ¬ HitAt wd.cps.toList tx.cps.toList k := by
  unfold nxtW at h
  rw [Option.map_eq_none_iff] at h
  intro k hk hh
  have hh' := cut_hit.mpr hh
  rw [len_toList, len_toList] at hh'
  have := findFrom_none h k hk (by omega)
  rw [decide_eq_false_iff_not] at this
  exact this hh'.2
theorem nxtW_some {wd tx : Str} {st i j : Nat} (h : nxtW wd tx st = some (i, j)) : st ≤ i ∧ j = i + wd.length ∧ HitAt wd.cps.toList tx.cps.toList i ∧ ∀ k, st ≤ k → k < i → ¬ HitAt wd.cps.toList tx.cps.toList k := by
  unfold nxtW at h
  rw [Option.map_eq_some_iff] at h
  obtain ⟨p, hp, e⟩ := h
  cases e
  obtain ⟨h1, h2, h3, h4⟩ := findFrom_some hp
  refine ⟨h1, rfl, cut_hit.mp ⟨by rw [len_toList, len_toList]; omega, by rw [len_toList]; exact of_decide_eq_true h3⟩, fun k hk1 hk2 hh => ?_⟩
  have hh' := cut_hit.mpr hh
  have := h4 k hk1 hk2
  rw [decide_eq_false_iff_not] at this
  rw [len_toList] at hh'
  exact this hh'.2
theorem nxtW_bound {wd tx : Str} {st i j : Nat} (h : nxtW wd tx st = some (i, j)) : st ≤ i ∧ i ≤ j ∧ j ≤ tx.length := by
  obtain ⟨h1, h2, h3, _⟩ := nxtW_some h
  have := h3.1
  rw [len_toList, len_toList] at this
  omega

/-- what the scan writes of x[a:e] -/
def scanR (w x : List Nat) (a e : Nat) : List Nat := rend (scanI w (e - a) ((x.take e).drop a))
theorem scan_fuel (w : List Nat) (hw : 1 ≤ w.length) : ∀ f l, l.length ≤ f → scanI w f l = scanI w l.length l
  | 0, l, h => by have : l = [] := List.eq_nil_of_length_eq_zero (by omega); subst this; rfl
  | f + 1, [], _ => rfl
  | f + 1, c :: r, h => by
    have h' : r.length ≤ f := by simpa using h
    show scanI w (f + 1) (c :: r) = scanI w (r.length + 1) (c :: r)
    rw [scanI, scanI]
    split
    · rw [scan_fuel w hw f _ (by simp; omega), scan_fuel w hw r.length _ (by simp; omega)]
    · rw [scan_fuel w hw f r h']
theorem scanR_end (w x : List Nat) (a e : Nat) (h : e ≤ a) : scanR w x a e = [] := by
  have : (x.take e).drop a = [] := List.drop_eq_nil_of_le (by simp; omega)
  unfold scanR
  rw [this]
  cases e - a <;> rfl
theorem drop_cons_at {x : List Nat} {a e : Nat} (h1 : a < e) (h2 : e ≤ x.length) : (x.take e).drop a = x[a]'(by omega) :: (x.take e).drop (a + 1) := by
  rw [List.drop_eq_getElem_cons (by simp; omega)]
  simp
/-- at a hit that ends by e: three dots, then on behind it -/
theorem scanR_hit {w x : List Nat} {a e : Nat} (hw : 1 ≤ w.length) (h2 : e ≤ x.length) (hh : HitAt w x a) (he : a + w.length ≤ e) : scanR w x a e = [46, 46, 46] ++ scanR w x (a + w.length) e := by
  have h1 : a < e := by omega
  unfold scanR
  rw [drop_cons_at h1 h2]
  obtain ⟨n, hn⟩ : ∃ n, e - a = n + 1 := ⟨e - a - 1, by omega⟩
  rw [hn, scanI]
  have hlen : ((x.take e).drop a).length = e - a := by simp; omega
  have htk : (x[a]'(by omega) :: (x.take e).drop (a + 1)).take w.length = w := by
    rw [← drop_cons_at h1 h2, List.drop_take, List.take_take, Nat.min_eq_left (by omega)]
    exact hh.2
  rw [if_pos htk, ← drop_cons_at h1 h2, List.drop_drop, scan_fuel w hw n _ (by simp; omega)]
  show 46 :: 46 :: 46 :: rend _ = _
  have : ((x.take e).drop (a + w.length)).length = e - (a + w.length) := by simp; omega
  rw [this]
  rfl
theorem scanR_miss {w x : List Nat} {a e : Nat} (hw : 1 ≤ w.length) (h1 : a < e) (h2 : e ≤ x.length) (hh : ¬ (HitAt w x a ∧ a + w.length ≤ e)) : scanR w x a e = x[a]'(by omega) :: scanR w x (a + 1) e := by
  unfold scanR
  rw [drop_cons_at h1 h2]
  obtain ⟨n, hn⟩ : ∃ n, e - a = n + 1 := ⟨e - a - 1, by omega⟩
  have hn2 : e - (a + 1) = n := by omega
  rw [hn, hn2, scanI]
  have htk : (x[a]'(by omega) :: (x.take e).drop (a + 1)).take w.length ≠ w := by
    intro q
    rw [← drop_cons_at h1 h2] at q
    have hl := congrArg List.length q
    simp at hl
    refine hh ⟨⟨by omega, ?_⟩, by omega⟩
    rw [List.drop_take, List.take_take, Nat.min_eq_left (by omega)] at q
    exact q
  rw [if_neg htk]
  rfl
/-- no hit that ends by e begins in [a, b): the signs as they stand -/
theorem scanR_skip {w x : List Nat} {e : Nat} (hw : 1 ≤ w.length) (h2 : e ≤ x.length) : ∀ (n a : Nat), a + n ≤ e → (∀ k, a ≤ k → k < a + n → ¬ (HitAt w x k ∧ k + w.length ≤ e)) → scanR w x a e = (x.take (a + n)).drop a ++ scanR w x (a + n) e
  | 0, a, _, _ => by
    have : (x.take (a + 0)).drop a = [] := List.drop_eq_nil_of_le (by simp; omega)
    rw [this]; rfl
  | n + 1, a, hle, hn => by
    have ih := scanR_skip hw h2 n (a + 1) (by omega) fun k h1 h3 => hn k (by omega) (by omega)
    rw [scanR_miss hw (by omega) h2 (hn a (Nat.le_refl _) (by omega)), ih, drop_cons_at (x := x) (a := a) (e := a + (n + 1)) (by omega) (by omega)]
    rw [show a + 1 + n = a + (n + 1) by omega]
    rfl

/-- the chain of the finder from st on: what stands ahead of the last match by e -/
theorem sr_chain {wd tx : Str} {e : Nat} (hw : 1 ≤ wd.length) (he : e ≤ tx.length) : ∀ (n : Nat) (found : Option (Nat × Nat)) (i : Nat),
    HitAt wd.cps.toList tx.cps.toList i → tx.length + 1 ≤ n + i →
    match srGo (nxtW wd tx) e n found (i, i + wd.length) with
    | none => found = none ∧ ¬ i + wd.length ≤ e
    | some (f, b) => (found = some (f, b) ∧ ¬ i + wd.length ≤ e) ∨ (i ≤ f ∧ b = f + wd.length ∧ b ≤ e ∧ HitAt wd.cps.toList tx.cps.toList f ∧
        (∀ k, b ≤ k → ¬ (HitAt wd.cps.toList tx.cps.toList k ∧ k + wd.length ≤ e)) ∧
        scanR wd.cps.toList tx.cps.toList i e = scanR wd.cps.toList tx.cps.toList i f ++ scanR wd.cps.toList tx.cps.toList f e)
  | 0, found, i, hh, hn => by
    have := hh.1
    rw [len_toList, len_toList] at this
    omega
  | n + 1, found, i, hh, hn => by
    have hlw := len_toList wd
    have hlt := len_toList tx
    have hw' : 1 ≤ wd.cps.toList.length := by omega
    have he' : e ≤ tx.cps.toList.length := by omega
    rw [srGo]
    by_cases hc : ((i, i + wd.length).1 : Int) < e ∧ ((i, i + wd.length).2 : Int) ≤ e
    · rw [if_pos hc]
      have hie : i + wd.length ≤ e := by have := hc.2; dsimp only at this; omega
      have hst : (if (i, i + wd.length).1 = (i, i + wd.length).2 then (i, i + wd.length).2 + 1 else (i, i + wd.length).2) = i + wd.length := if_neg (by dsimp only; omega)
      rw [hst]
      cases hx : nxtW wd tx (i + wd.length) with
      | none =>
        refine .inr ⟨Nat.le_refl _, rfl, hie, hh, fun k hk hq => nxtW_none hx k hk hq.1, ?_⟩
        rw [scanR_end _ _ _ _ (Nat.le_refl i)]; rfl
      | some m =>
        obtain ⟨i2, j2⟩ := m
        obtain ⟨g1, rfl, g3, g4⟩ := nxtW_some hx
        have hrec := sr_chain hw he n (some (i, i + wd.length)) i2 g3 (by omega)
        have hbet : ∀ b, b ≤ i2 → b ≤ e → i + wd.length ≤ b → scanR wd.cps.toList tx.cps.toList (i + wd.length) b = (tx.cps.toList.take b).drop (i + wd.length) := fun b h1 h2 h3 => by
          have := scanR_skip hw' (e := b) (by omega) (b - (i + wd.length)) (i + wd.length) (by omega) (fun k h4 h5 q => g4 k (by omega) (by omega) q.1)
          rw [this, show i + wd.length + (b - (i + wd.length)) = b by omega, scanR_end _ _ _ _ (Nat.le_refl b), List.append_nil]
        dsimp only
        cases hr : srGo (nxtW wd tx) e n (some (i, i + wd.length)) (i2, i2 + wd.length) with
        | none => rw [hr] at hrec; exact absurd hrec.1 (by simp)
        | some fb =>
          rw [hr] at hrec
          obtain ⟨f, b⟩ := fb
          rcases hrec with ⟨q1, q2⟩ | ⟨q1, q2, q3, q4, q5, q6⟩
          · cases q1
            refine .inr ⟨Nat.le_refl _, rfl, hie, hh, fun k hk hq => ?_, ?_⟩
            · by_cases hk2 : k < i2
              · exact g4 k hk hk2 hq.1
              · omega
            · rw [scanR_end _ _ _ _ (Nat.le_refl i)]; rfl
          · refine .inr ⟨by omega, q2, q3, q4, q5, ?_⟩
            have hi2e : i2 ≤ f := q1
            have hfe : f ≤ e := by omega
            rw [scanR_hit hw' he' hh (by omega)]
            have hi_f : scanR wd.cps.toList tx.cps.toList i f = [46, 46, 46] ++ scanR wd.cps.toList tx.cps.toList (i + wd.length) f := by
              have := scanR_hit hw' (e := f) (by omega) hh (by omega)
              rwa [hlw] at this
            rw [hi_f, hlw, List.append_assoc]
            congr 1
            have s1 := scanR_skip hw' (e := e) he' (i2 - (i + wd.length)) (i + wd.length) (by omega) (fun k h4 h5 q => g4 k (by omega) (by omega) q.1)
            have s2 := scanR_skip hw' (e := f) (by omega) (i2 - (i + wd.length)) (i + wd.length) (by omega) (fun k h4 h5 q => g4 k (by omega) (by omega) q.1)
            rw [show i + wd.length + (i2 - (i + wd.length)) = i2 by omega] at s1 s2
            rw [s1, s2, q6, List.append_assoc]
    · rw [if_neg hc]
      have hie : ¬ i + wd.length ≤ e := fun q => hc ⟨by dsimp only; omega, by dsimp only; omega⟩
      cases found with
      | none => exact ⟨rfl, hie⟩
      | some m => exact .inl ⟨rfl, hie⟩

theorem scanR_zero (w x : List Nat) (e : Nat) : scanR w x 0 e = rend (scanI w e (x.take e)) := rfl

theorem sr_none {wd tx : Str} {e : Nat} (he : e ≤ tx.length) (hw : 1 ≤ wd.length) (h : srB (nxtW wd tx) e (tx.length + 1) = none) : rend (scanI wd.cps.toList e (tx.cps.toList.take e)) = tx.cps.toList.take e := by
  have hlw := len_toList wd
  have hlt := len_toList tx
  rw [← scanR_zero]
  have fin : (∀ k, ¬ (HitAt wd.cps.toList tx.cps.toList k ∧ k + wd.cps.toList.length ≤ e)) → scanR wd.cps.toList tx.cps.toList 0 e = tx.cps.toList.take e := fun hk => by
    have := scanR_skip (w := wd.cps.toList) (x := tx.cps.toList) (e := e) (by omega) (by omega) e 0 (by omega) fun k _ _ => hk k
    rw [this, Nat.zero_add, scanR_end _ _ _ _ (Nat.le_refl e), List.append_nil, List.drop_zero]
  unfold srB at h
  cases hx : nxtW wd tx 0 with
  | none => exact fin fun k hk => nxtW_none hx k (by omega) hk.1
  | some m =>
    obtain ⟨i, j⟩ := m
    obtain ⟨g1, rfl, g3, g4⟩ := nxtW_some hx
    rw [hx] at h
    have hc := sr_chain hw he (tx.length + 1) none i g3 (by omega)
    dsimp only at h
    rw [h] at hc
    refine fin fun k hk => ?_
    by_cases hki : k < i
    · exact g4 k (by omega) hki hk.1
    · have := hc.2; omega

theorem sr_some {wd tx : Str} {e f b : Nat} (he : e ≤ tx.length) (hw : 1 ≤ wd.length) (h : srB (nxtW wd tx) e (tx.length + 1) = some (f, b)) :
    f < b ∧ b ≤ e ∧ rend (scanI wd.cps.toList e (tx.cps.toList.take e)) = rend (scanI wd.cps.toList f (tx.cps.toList.take f)) ++ ([46, 46, 46] ++ (tx.cps.toList.take e).drop b) := by
  have hlw := len_toList wd
  have hlt := len_toList tx
  rw [← scanR_zero, ← scanR_zero]
  unfold srB at h
  cases hx : nxtW wd tx 0 with
  | none => rw [hx] at h; cases h
  | some m =>
    obtain ⟨i, j⟩ := m
    obtain ⟨g1, rfl, g3, g4⟩ := nxtW_some hx
    rw [hx] at h
    have hc := sr_chain hw he (tx.length + 1) none i g3 (by omega)
    dsimp only at h
    rw [h] at hc
    rcases hc with ⟨q, _⟩ | ⟨q1, rfl, q3, q4, q5, q6⟩
    · cases q
    refine ⟨by omega, q3, ?_⟩
    have s1 := scanR_skip (w := wd.cps.toList) (x := tx.cps.toList) (e := e) (by omega) (by omega) i 0 (by omega) fun k _ h3 q => g4 k (by omega) (by omega) q.1
    have s2 := scanR_skip (w := wd.cps.toList) (x := tx.cps.toList) (e := f) (by omega) (by omega) i 0 (by omega) fun k _ h3 q => g4 k (by omega) (by omega) q.1
    rw [Nat.zero_add] at s1 s2
    rw [s1, s2, q6, scanR_hit (by omega) (by omega) q4 (by omega)]
    have s3 := scanR_skip (w := wd.cps.toList) (x := tx.cps.toList) (e := e) (by omega) (by omega) (e - (f + wd.length)) (f + wd.length) (by omega) fun k h4 h5 q => q5 k h4 ⟨q.1, by omega⟩
    rw [show f + wd.length + (e - (f + wd.length)) = e by omega, scanR_end _ _ _ _ (Nat.le_refl e), List.append_nil] at s3
    rw [hlw, s3]
    simp

theorem rend_split {c : Nat} {it : List (Option Nat)} (hc : c ≠ 46) {p : List Nat} {ps : List (List Nat)} (h : splitL (rend it) = p :: ps) : splitL (rend (some c :: it)) = (c :: p) :: ps :=
  splitL_cons_ne (by intro q; simp at q; exact hc q.1) h
theorem em_exp {it : List (Option Nat)} {x : List Nat} (hd : ∀ c, some c ∈ it → c ≠ 46) (h : Expd it x) : emB (ofL (rend it)) (ofL x) = true := by
  rw [emB_iff, toList_ofL, toList_ofL]
  induction h with
  | nil => simp [rend, splitL, MT]
  | @gap r x g h ih =>
    have ih := ih fun c hc => hd c (List.mem_cons_of_mem _ hc)
    show MT (splitL (46 :: 46 :: 46 :: rend _)) _
    rw [splitL_dots]
    cases hs : splitL (rend r) with
    | nil => exact absurd hs (splitL_ne _)
    | cons p ps => rw [hs] at ih; exact ⟨g, x, rfl, ih⟩
  | @chr r x c h ih =>
    have ih := ih fun c hc => hd c (List.mem_cons_of_mem _ hc)
    cases hs : splitL (rend r) with
    | nil => exact absurd hs (splitL_ne _)
    | cons p ps =>
      rw [rend_split (hd c (.head _)) hs]
      rw [hs] at ih
      cases ps with
      | nil => exact congrArg (c :: ·) ih
      | cons q qs =>
        obtain ⟨u, v, e, hm⟩ := ih
        exact ⟨u, v, by rw [e]; rfl, hm⟩
theorem mt_sub : ∀ (ps : List (List Nat)) (x : List Nat), MT ps x → ps.flatten.Sublist x
  | [p], x, h => by obtain rfl : x = p := h; simp
  | p :: q :: r, x, ⟨u, v, e, h⟩ => by
    have ih := mt_sub (q :: r) v h
    rw [e, List.flatten_cons]
    exact (List.Sublist.refl p).append (ih.trans (List.sublist_append_right u v))
theorem flat_rend : ∀ (it : List (Option Nat)), (∀ c, some c ∈ it → c ≠ 46) → (splitL (rend it)).flatten = keptI it
  | [], _ => by simp [rend, splitL, keptI]
  | none :: r, hd => by
    have ih := flat_rend r fun c hc => hd c (List.mem_cons_of_mem _ hc)
    show (splitL (46 :: 46 :: 46 :: rend r)).flatten = keptI r
    rw [splitL_dots]; simpa using ih
  | some c :: r, hd => by
    have ih := flat_rend r fun c hc => hd c (List.mem_cons_of_mem _ hc)
    cases hs : splitL (rend r) with
    | nil => exact absurd hs (splitL_ne _)
    | cons p ps =>
      rw [rend_split (hd c (.head _)) hs]
      rw [hs] at ih
      simp only [List.flatten_cons] at ih ⊢
      rw [List.cons_append, ih]; rfl
theorem em_less {it : List (Option Nat)} {x : List Nat} (hd : ∀ c, some c ∈ it → c ≠ 46) (h : ¬ (keptI it).Sublist x) : emB (ofL (rend it)) (ofL x) = false := by
  cases hb : emB (ofL (rend it)) (ofL x) with
  | false => rfl
  | true =>
    rw [emB_iff, toList_ofL, toList_ofL] at hb
    have := mt_sub _ _ hb
    rw [flat_rend it hd] at this
    exact absurd this h
theorem exp_self (w : List Nat) (hw : 1 ≤ w.length) : ∀ f l, l.length ≤ f → Expd (scanI w f l) l
  | 0, l, h => by have : l = [] := List.eq_nil_of_length_eq_zero (by omega); subst this; exact .nil
  | f + 1, [], _ => .nil
  | f + 1, c :: r, h => by
    have h' : r.length ≤ f := by simpa using h
    rw [scanI]
    split
    · rename_i hp
      have ih := exp_self w hw f ((c :: r).drop w.length) (by simp; omega)
      have := Expd.gap w ih
      have e : w ++ (c :: r).drop w.length = c :: r := by
        have := List.take_append_drop w.length (c :: r)
        rwa [hp] at this
      rwa [e] at this
    · exact .chr c (exp_self w hw f r h')
theorem exp_kept : ∀ it, Expd it (keptI it)
  | [] => .nil
  | none :: r => .gap [] (exp_kept r)
  | some c :: r => .chr c (exp_kept r)
theorem exp_fill (g : Nat → List Nat) : ∀ t it, Expd it (fillI g t it)
  | _, [] => .nil
  | t, none :: r => .gap (g t) (exp_fill g (t + 1) r)
  | t, some c :: r => .chr c (exp_fill g t r)
theorem scan_mem (w : List Nat) : ∀ f l c, some c ∈ scanI w f l → c ∈ l
  | 0, _, _, h => by simp [scanI] at h
  | f + 1, [], _, h => by simp [scanI] at h
  | f + 1, d :: r, c, h => by
    rw [scanI] at h
    split at h
    · simp only [List.mem_cons, reduceCtorEq, false_or] at h
      exact List.mem_of_mem_drop (scan_mem w f _ c h)
    · rcases List.mem_cons.mp h with q | q
      · cases q; exact .head _
      · exact .tail _ (scan_mem w f r c q)
theorem kept_mem : ∀ it c, c ∈ keptI it → some c ∈ it
  | [], _, h => by simp [keptI] at h
  | none :: r, c, h => .tail _ (kept_mem r c h)
  | some d :: r, c, h => by
    rcases List.mem_cons.mp h with q | q
    · subst q; exact .head _
    · exact .tail _ (kept_mem r c q)
theorem not_sub {k x : List Nat} {i : Nat} (hi : i < k.length) (hk : ∀ c ∈ k, c ≠ 100) (hx : x = [] ∨ x = [100]) : ¬ k.Sublist (k.take i ++ x ++ k.drop (i + 1)) := by
  intro h
  have hl := h.length_le
  rcases hx with rfl | rfl
  · simp at hl; omega
  · have he := h.eq_of_length (by simp; omega)
    have : 100 ∈ k := by rw [he]; simp
    exact hk 100 this rfl
end Mine
namespace Mine

theorem cell_noCode {o : Obj} {ov : Option Value} (h : o.data = .cell ov) : NoCode o := .inr fun vs q => by rw [h] at q; cases q

section
variable {prog : Program} {w : World} {A : Around} {E : Value → Shared → Prop} {s : Shared} {gh : Heap} {ts : List TabI} {mg mb : Str → Option Value}

/-- a def, some of whose names are kept in cells -/
theorem enterM {R : Result → Shared → Prop} {a : Addr} {o : Obj} {fd : FuncData} {body : List Stmt} {args : Args} {binds : List (Str × Value)} {ns0 : List Str} {vs0 : List (Option Value)} {ks : List Str} {k : Nat}
    (B : Bg gh ts s.heap) (G : Gd gh mg mb) (hA : AOk A (k + 1)) (ho : s.heap.get? a = some o) (hdata : o.data = .func fd) (hcd : s.heap.CodeRec fd.code fd.qualname)
    (hbody : fd.body = .stmts body) (hbind : BindsTo s fd args binds) (hclo : fd.closure = [])
    (hg : fd.globals = mainGlobals) (hb : fd.builtins = builtinsNs)
    (hkind : ∀ n, ∀ x ∈ binds, fd.scope.names.lookup x.1 = some .local ∨ (fd.scope.names.lookup x.1 = some .cell ∧ ((cellsFrom n fd.scope.names []).lookup x.1).isSome = true))
    (hnd : ((cellsFrom 0 fd.scope.names []).map (·.1)).Nodup)
    (hbl : bindL (fun y => fd.scope.names.lookup y) binds (fun _ => none) = amap ns0 vs0) (hlen : ns0.length = vs0.length)
    (h : ∀ env A' h₁ tk cells (E' : Value → Shared → Prop), EnvOk env fd.scope.names (cellsFrom (env.locals + 1) fd.scope.names []) (fd.qualname ++ ".<locals>.") fd.code → AOk A' k →
      CellsAre (bindC (fun y => fd.scope.names.lookup y) binds fun _ => none) (cellsFrom (env.locals + 1) fd.scope.names []) cells →
      FS ts s.heap env.locals (amap (ns0 ++ ks) (vs0 ++ ks.map fun _ => none)) cells h₁ →
      wpAny (model prog w) A' (execs body env) (fun f s' => R (.ok (.ret (match f with | .ret v => v | _ => .none))) s') E' { s with heap := h₁, toks := tk })
    (hco : fd.scope.isCoroutine = false := by rfl) (hgen : fd.scope.isGenerator = false := by rfl) (hk : fd.scope.kind = .function := by rfl) :
    codeAny (model prog w) A (.call (.ref a) args) R s := by
  refine codeAny_call_function hA.room ho hdata hco hgen hbody hcd (hbind _ _ _ _ ?_)
  rw [hclo]
  refine wpAny_newFunctionEnv_cells hk (hkind _) fun env' he s' x => ?_
  refine ⟨(G.lim.keeps B.st).keeps x.toInCall.keep, codeAny_func ?_⟩
  obtain ⟨h₁, tk, hs', hkp⟩ := x.done
  have hloc : env'.locals = s.heap.objs.size := by rw [he]; rfl
  have hcells : env'.cells = cellsFrom (env'.locals + 1) fd.scope.names [] := by rw [he]; rfl
  have hkindOf : env'.kindOf = fun y => fd.scope.names.lookup y := by rw [he]; rfl
  have hmem : ∀ n c, (n, c) ∈ env'.cells → env'.cells.lookup n = some c := fun n c hm => lookup_of_mem_nodup (hcells ▸ (cellsFrom_names fd.scope.names 0 (env'.locals + 1) [] [] rfl ▸ hnd)) hm
  obtain ⟨cells, NC, Y⟩ := Cl.news (h₀ := s.heap) (L := env'.locals) (cm := bindC env'.kindOf binds fun _ => none) (h := s'.heap) (cs := env'.cells) (Nat.le_of_eq hloc.symm) fun n c hm => ⟨x.cell n c (hmem n c hm), x.above n c hm⟩
  have hnd' : cells.Pairwise Apart := by
    have hp := x.apart
    clear NC
    generalize env'.cells = cs at *
    clear hcells hmem
    have : ∀ (cs : List (Str × Addr)) (cells : List (Addr × Obj)), CellsAre (bindC env'.kindOf binds fun _ => none) cs cells → cells.map (·.1) = cs.map (·.2) := by
      intro cs cells Y
      induction Y with
      | nil => rfl
      | cons _ _ ih => simp [ih]
    have h4 : (cells.map (·.1)).Pairwise (· ≠ ·) := by rw [this _ _ Y]; exact List.pairwise_map.mpr hp
    exact (List.pairwise_map.mp h4).imp fun h => .inl h
  have hS : FS ts s.heap env'.locals (amap (ns0 ++ ks) (vs0 ++ ks.map fun _ => none)) cells s'.heap := by
    refine ⟨Ext.stays x.toInCall.keep (Nat.le_of_lt (hloc ▸ x.toInCall.ns.lt)), ?_, Nat.le_of_eq hloc.symm, fun p hp => ⟨(NC p hp).1, (NC p hp).2.1, ?_⟩, hnd', B.tb⟩
    · rw [← amap_pad ks hlen, ← hbl, ← hkindOf]; exact x.toInCall.ns
    · refine .inl ?_
      cases Nat.lt_or_ge p.1 s.heap.objs.size with
      | inr h => exact h
      | inl h =>
        exfalso
        have hm : ∀ (cs : List (Str × Addr)) (cells : List (Addr × Obj)), CellsAre (bindC env'.kindOf binds fun _ => none) cs cells → ∀ p ∈ cells, ∃ n, (n, p.1) ∈ cs := by
          intro cs cells Y
          induction Y with
          | nil => intro p hp; cases hp
          | cons _ _ ih =>
            intro p hp
            rcases List.mem_cons.mp hp with rfl | hp
            · exact ⟨_, .head _⟩
            · obtain ⟨n, hn⟩ := ih p hp; exact ⟨n, .tail _ hn⟩
        obtain ⟨n, hn⟩ := hm _ _ Y p hp
        have h3 := x.above n p.1 hn
        rw [hloc] at h3
        exact absurd (Nat.lt_trans h3 h) (Nat.lt_irrefl _)
  have := h env' (A.deeper env') s'.heap s'.toks cells (fun e s' => wpAny (model prog w) (A.deeper env') (leaving env' e) (fun _ s'' => R (.error e) s'') (fun e' s'' => R (.error e') s'') s')
    ⟨by rw [he]; exact hk, by rw [he]; rfl, hcells, by rw [he]; exact hg, by rw [he]; exact hb, by rw [he]; rfl, by rw [he]; rfl⟩ hA.deeper (by rw [← hcells, ← hkindOf]; exact Y) hS
  have e2 : ({ s with heap := s'.heap, toks := s'.toks } : Shared) = s' := by rw [hs']
  rw [e2] at this
  exact this

variable {env : Env} {kinds : List (Str × NameKind)} {cells : List (Str × Addr)} {qual : Str} {code : Value} {g : Heap} {L : Addr} {m : Str → Option Value} {ns : List Str} {vs : List (Option Value)} {K₀ N : List (Addr × Obj)}

/-- a name in a cell, read -/
theorem eCell {M : Model} {x : Str} {pos : Pos} {v : Value} {c : Addr} {oc : Obj} {Q : Value → Shared → Prop} (e : EnvOk env kinds cells qual code) (hl : kinds.lookup x = some .cell) (hc : cells.lookup x = some c) (ho : s.heap.get? c = some oc) (hv : oc.data = .cell (some v)) (h : Q v s)
    (hd : (x == ("__debug__" : Str)) = false := by decide) : wpAny M A (eval (.Name x pos) env) Q E s :=
  wpAny_Name (wpAny_loadName_cell e.kind (e.kindOf hl) (e.cells ▸ hc) ⟨oc, ho, hv⟩ h) hd
/-- a name in a cell, stored -/
theorem sCell {M : Model} {x : Str} {v : Value} {c : Addr} {oc : Obj} {ov : Option Value} {pre post : List (Addr × Obj)} {Q : Unit → Shared → Prop} (e : EnvOk env kinds cells qual code) (hl : kinds.lookup x = some .cell) (hc : cells.lookup x = some c)
    (S : FS ts g L m (pre ++ (c, oc) :: post) s.heap) (hv : oc.data = .cell ov)
    (h : ∀ h' oc', oc'.data = .cell (some v) → FS ts g L m (pre ++ (c, oc') :: post) h' → Q () { s with heap := h' }) : wpAny M A (storeName env x v) Q E s := by
  have ho := (S.news (c, oc) (by simp)).1
  refine wpAny_storeName_cell e.kind (e.kindOf hl) (e.cells ▸ hc) ⟨oc, ho, hv⟩ fun h' hi hs => ?_
  obtain ⟨oc', ho', hd'⟩ := hi
  exact h h' oc' hd' (S.turn hs ho' (cell_noCode hv))

/-- a loop whose name is kept in a cell; the cell heads the ledger -/
theorem for_cell {x : Str} {px : Pos} {body : List Stmt} {Q : Flow → Shared → Prop} {I c : Addr} {fp : List Addr} {n : Nat} {P : Nat → Value → Prop} {St : Nat → Heap → Prop} {oI oc : Obj} {ov : Option Value}
    (W : Walks prog w A I fp [I] n P St)
    (hio : ∀ i h, St i h → ∃ o, h.get? I = some o ∧ NoCode o)
    (hfp : ∀ o i h h' m m' N N', FS ts g env.locals m (N ++ (I, o) :: K₀) h → FS ts g env.locals m' (N' ++ (I, o) :: K₀) h' → St i h → St i h')
    (e : EnvOk env kinds cells qual code) (hx : kinds.lookup x = some .cell) (hcx : cells.lookup x = some c)
    (S : FS ts g env.locals (amap ns vs) ((c, oc) :: (N ++ (I, oI) :: K₀)) s.heap) (hoc : oc.data = .cell ov) (hst : St 0 s.heap)
    (J : Nat → List (Option Value) → List (Addr × Obj) → Prop) (h0 : J 0 vs N)
    (step : ∀ i v vs₁ oc N₁ p h tk (E' : Value → Shared → Prop), i < n → P i v → J i vs₁ N₁ → oc.data = .cell (some v) → FS ts g env.locals (amap ns vs₁) ((c, oc) :: (N₁ ++ p :: K₀)) h →
      wpAny (model prog w) A (execs body env) (fun f s₂ => match f with
        | .ret v => Q (.ret v) s₂
        | .brk => Q .next s₂
        | _ => ∃ vs₂ N₂ oc₂ ov₂ h₂ tk₂, s₂ = { s with heap := h₂, toks := tk₂ } ∧ oc₂.data = .cell ov₂ ∧ FS ts g env.locals (amap ns vs₂) ((c, oc₂) :: (N₂ ++ p :: K₀)) h₂ ∧ J (i + 1) vs₂ N₂) E' { s with heap := h, toks := tk })
    (done : ∀ vs₁ oc ov N₁ h tk, J n vs₁ N₁ → oc.data = .cell ov → FS ts g env.locals (amap ns vs₁) ((c, oc) :: (N₁ ++ K₀)) h → Q .next { s with heap := h, toks := tk }) :
    codeAny (model prog w) A (.forLoop (.Name x px) (.ref I) body [] env) (fun r s' => match r with | .ok f => Q f s' | .error e => cameBackBy (model prog w) A env E e s') s := by
  refine codeAny_forLoop_any (fun k s' => ∃ i vs₁ N₁ o oc ov h tk, s' = { s with heap := h, toks := tk } ∧ k = n - i ∧ i ≤ n ∧ J i vs₁ N₁ ∧ oc.data = .cell ov ∧ FS ts g env.locals (amap ns vs₁) (((c, oc) :: N₁) ++ (I, o) :: K₀) h ∧ St i h) ?_ n
    ⟨0, vs, N, oI, oc, ov, s.heap, s.toks, rfl, rfl, Nat.zero_le _, h0, hoc, S, hst⟩
  rintro k s' ⟨i, vs₁, N₁, o, oc, ov, h, tk, rfl, rfl, hin, hJ, hoc, S₁, hst₁⟩
  have hno : NoCode o := by
    obtain ⟨o', e, hc⟩ := hio i h hst₁
    have e2 := (S₁.news (I, o) (by simp)).1
    rw [e] at e2; cases e2; exact hc
  by_cases hlt' : i < n
  · refine W.item i _ _ _ hlt' hst₁ fun v h' tk' hP hst' hkp => ?_
    obtain ⟨o', ho', hno'⟩ := hio _ _ hst'
    have S₂ := S₁.next hno ho' (fun b ob hb e => hkp b ob (by simpa using hb) e)
    refine wpAny_pure ?_
    refine wpAny_assign_Name (sCell (pre := []) e hx hcx S₂ hoc fun h₂ oc2 hoc2 S₃ => ?_)
    have S₃ : FS ts g env.locals (amap ns vs₁) (((c, oc2) :: N₁) ++ (I, o') :: K₀) h₂ := S₃
    have hst₃ : St (i + 1) h₂ := hfp _ _ _ _ _ _ _ _ S₂ S₃ hst'
    refine wpAny_mono (step i v vs₁ oc2 N₁ (I, o') h₂ tk' _ hlt' hP hJ hoc2 S₃) (fun f s₃ hf => ?_) fun _ _ e => e
    have fin : (∃ vs₂ N₂ oc₂ ov₂ h₂ tk₂, s₃ = { s with heap := h₂, toks := tk₂ } ∧ oc₂.data = .cell ov₂ ∧ FS ts g env.locals (amap ns vs₂) ((c, oc₂) :: (N₂ ++ (I, o') :: K₀)) h₂ ∧ J (i + 1) vs₂ N₂) → ∃ m, m < n - i ∧ ∃ i vs₁ N₁ o oc ov h tk, s₃ = { s with heap := h, toks := tk } ∧ m = n - i ∧ i ≤ n ∧ J i vs₁ N₁ ∧ oc.data = .cell ov ∧ FS ts g env.locals (amap ns vs₁) (((c, oc) :: N₁) ++ (I, o) :: K₀) h ∧ St i h := by
      rintro ⟨vs₄, N₄, oc₄, ov₄, h₄, tk₄, rfl, hoc₄, S₄, hJ₄⟩
      exact ⟨n - (i + 1), by omega, i + 1, vs₄, N₄, o', oc₄, ov₄, h₄, tk₄, rfl, rfl, hlt', hJ₄, hoc₄, S₄, hfp o' _ _ _ _ _ _ ((c, oc₄) :: N₄) S₃ S₄ hst₃⟩
    cases f with
    | ret v => exact hf
    | brk => exact hf
    | next => exact fin hf
    | cont => exact fin hf
  · obtain rfl : i = n := by omega
    refine W.done _ _ _ hst₁ fun h' tk' hkp => ?_
    exact wpAny_execs_nil (done vs₁ oc ov N₁ h' tk' hJ hoc (S₁.but hno fun b ob hb e => hkp b ob (by simpa using hb) e))

theorem range_cell {x : Str} {px : Pos} {body : List Stmt} {Q : Flow → Shared → Prop} {r c : Addr} {a b : Int} {t u v : Tok} {n : Nat} {oc : Obj} {ov : Option Value} (hh : A.handled = none) (hr : IsRange s.heap r a b 1 t u v)
    (ha : -(2 ^ 62) ≤ a) (ha' : a < 2 ^ 62) (hb : -(2 ^ 62) ≤ b) (hb' : b < 2 ^ 62) (hn : (n : Int) = if a < b then b - a else 0)
    (e : EnvOk env kinds cells qual code) (hx : kinds.lookup x = some .cell) (hcx : cells.lookup x = some c)
    (S : FS ts g env.locals (amap ns vs) ((c, oc) :: (N ++ K₀)) s.heap) (hoc : oc.data = .cell ov)
    (J : Nat → List (Option Value) → List (Addr × Obj) → Prop) (h0 : J 0 vs N)
    (step : ∀ i tv vs₁ oc N₁ p h tk (E' : Value → Shared → Prop), i < n → J i vs₁ N₁ → oc.data = .cell (some (.int (a + i) tv)) → FS ts g env.locals (amap ns vs₁) ((c, oc) :: (N₁ ++ p :: K₀)) h →
      wpAny (model prog w) A (execs body env) (fun f s₂ => match f with
        | .ret v => Q (.ret v) s₂
        | .brk => Q .next s₂
        | _ => ∃ vs₂ N₂ oc₂ ov₂ h₂ tk₂, s₂ = { s with heap := h₂, toks := tk₂ } ∧ oc₂.data = .cell ov₂ ∧ FS ts g env.locals (amap ns vs₂) ((c, oc₂) :: (N₂ ++ p :: K₀)) h₂ ∧ J (i + 1) vs₂ N₂) E' { s with heap := h, toks := tk })
    (done : ∀ vs₁ oc ov N₁ h tk, J n vs₁ N₁ → oc.data = .cell ov → FS ts g env.locals (amap ns vs₁) ((c, oc) :: (N₁ ++ K₀)) h → Q .next { s with heap := h, toks := tk }) :
    wpAny (model prog w) A (pyIter (.ref r)) (fun it s₂ => codeAny (model prog w) A (.forLoop (.Name x px) it body [] env) (fun r s' => match r with | .ok f => Q f s' | .error e => cameBackBy (model prog w) A env E e s') s₂) E s := by
  have hz : Builtin.Range.rangeSize a b 1 = (n : Int) := by
    rw [hn]; exact rangeSize_one a b
  refine wpAny_pyIter_range hr (small_one ha ha' hb hb') ?_
  rw [hz]
  have S₁ := FS.pushMid (N := (c, oc) :: N) (N' := K₀) S { cls := .type "range_iterator", data := .fields #[rawInt a, rawInt (n : Int), rawInt 1] }
  refine for_cell (s := { s with heap := s.heap.push _ }) (Walks.range hh s.heap.objs.size a 1 n) (fun i h e => ⟨_, e, noCode_cls rfl⟩) (fun o i h h' m m' N N' S S' e => ?_) e hx hcx S₁ hoc ?_ J h0
    (fun i v vs₁ oc N₁ p h tk E' hin hP hJ hoc S' => ?_) done
  · have e1 := (S.news (s.heap.objs.size, o) (by simp)).1
    have e2 := (S'.news (s.heap.objs.size, o) (by simp)).1
    exact e2.trans (e1.symm.trans e)
  · have := (S₁.news (s.heap.objs.size, _) (List.mem_append_right _ (.head _))).1
    simpa [IsRangeIter] using this
  · obtain ⟨tv, rfl⟩ := hP
    rw [Int.mul_one] at hoc
    exact step i tv vs₁ oc N₁ p h tk E' hin hJ hoc S'

/-- a comprehension over a range -/
theorem comp_range {elt iter : Expr} {x : Str} {px pos : Pos} {ifs : List Expr} {scope : Scope} {clos : List (Str × Addr)} {names' : List (Str × NameKind)} {Q : Value → Shared → Prop} {r : Addr} {a b : Int} {t u v : Tok} {n : Nat}
    (hh : A.handled = none) (hr : IsRange s.heap r a b 1 t u v)
    (ha : -(2 ^ 62) ≤ a) (ha' : a < 2 ^ 62) (hb : -(2 ^ 62) ≤ b) (hb' : b < 2 ^ 62) (hn : (n : Int) = if a < b then b - a else 0)
    (e : EnvOk env kinds cells qual code) (S : FS ts g env.locals m N s.heap)
    (hnc : ∀ x ∈ scope.names, x.2 ≠ .cell) (hx : names'.lookup x = some .local) (hkind : scope.kind = .function)
    (J : Nat → List Value → Prop) (h0 : J 0 []) (hJ : ∀ i ys, J i ys → ys.length ≤ 5000)
    (step : ∀ cenv, EnvOk cenv names' clos qual code → ∀ i tv ys N₁ N₂ h tk (E' : Value → Shared → Prop), i < n → J i ys → FS ts g cenv.locals (amap [x] [some (.int (a + i) tv)]) (N₁ ++ (N₂ ++ N)) h →
      wpAny (model prog w) A (tests ifs cenv) (fun ok s₃ =>
        if ok = true then wpAny (model prog w) A (eval elt cenv) (fun y s₄ => ∃ N₁' vx h4 tk4, s₄ = { s with heap := h4, toks := tk4 } ∧ FS ts g cenv.locals (amap [x] [vx]) (N₁' ++ (N₂ ++ N)) h4 ∧ J (i + 1) (ys ++ [y])) E' s₃
        else ∃ N₁' vx h4 tk4, s₃ = { s with heap := h4, toks := tk4 } ∧ FS ts g cenv.locals (amap [x] [vx]) (N₁' ++ (N₂ ++ N)) h4 ∧ J (i + 1) ys) E' { s with heap := h, toks := tk })
    (done : ∀ D ys nD h tk, J n ys → FS ts g env.locals m ((D, lst ys nD) :: N) h → Q (.ref D) { s with heap := h, toks := tk }) :
    wpAny (model prog w) A (pyIter (.ref r)) (fun it s₂ => wpAny (model prog w) A (newList []) (fun acc s₃ =>
      wpAny (model prog w) A (newFunctionEnv scope env.globals clos [] env.qual none .none (some env)) (fun cenv s₄ =>
        codeAny (model prog w) A (.compStart (.ListComp elt [⟨.Name x px, iter, ifs, 0⟩] scope pos) 0 it acc { cenv with scope := { scope with names := names' } }) (fun r s' => ∃ m, s'.heap.Ns cenv.locals m ∧ ∀ h', Heap.SameBut cenv.locals s'.heap h' →
          match r with | .ok _ => Q acc { s' with heap := h' } | .error x => wpAny (model prog w) A (passOn "comprehension.variables-let-go" x { cenv with scope := { scope with names := names' } }) Q E { s' with heap := h' }) s₄) E s₃) E s₂) E s := by
  have hz : Builtin.Range.rangeSize a b 1 = (n : Int) := by
    rw [hn]; exact rangeSize_one a b
  refine wpAny_pyIter_range hr (small_one ha ha' hb hb') ?_
  rw [hz]
  have S₁ := S.push { cls := .type "range_iterator", data := .fields #[rawInt a, rawInt (n : Int), rawInt 1] }
  refine compTail (s := { s with heap := s.heap.push _ }) (Walks.range hh s.heap.objs.size a 1 n) (fun i h e => ⟨_, e, noCode_cls rfl⟩) (fun o i h h' L m m' N₁ N₂ K F1 F2 st => ?_) e S₁ (fun h hI kp => ?_) hnc hx hkind J h0 hJ
    (fun cenv ec i v ys N₁ N₂ h tk E' hin hP hJi S' => ?_) (fun D ys nD h tk hJn S' => done D ys nD h tk hJn S')
  · have e1 := (F1.news (s.heap.objs.size, o) (by simp)).1
    have e2 := (F2.news (s.heap.objs.size, o) (by simp)).1
    exact e2.trans (e1.symm.trans st)
  · simpa [IsRangeIter] using hI
  · obtain ⟨tv, rfl⟩ := hP
    rw [Int.mul_one] at S'
    exact step cenv ec i tv ys N₁ N₂ h tk E' hin hJi S'
end
end Mine
namespace Mine
def pickV (pk : Int) (l : List Nat) : Nat := if pk = 0 then l.headD 0 else l.getLastD 0
def nxtT (T : List (List Nat)) (pk : Int) (len : Nat) (st : Nat) : Option (Nat × Nat) :=
  (findFrom (fun p => decide (T.getD p [] ≠ [])) (len + 1 - st) st).map fun p => (p, pickV pk (T.getD p []))
/-- a list of lists of ints, in the ledger -/
def TabIs (D : List (Addr × Obj)) (tv : List Value) (T : List (List Nat)) : Prop :=
  tv.length = T.length ∧ ∀ i, i < T.length → ∃ la n ivs, tv[i]? = some (.ref la) ∧ (la, lst ivs n) ∈ D ∧ IntsAre ivs ((T.getD i []).map Int.ofNat)
theorem TabIs.mono {D D' : List (Addr × Obj)} {tv : List Value} {T : List (List Nat)} (h : TabIs D tv T) (k : D ⊆ D') : TabIs D' tv T :=
  ⟨h.1, fun i hi => let ⟨la, n, ivs, a, b, c⟩ := h.2 i hi; ⟨la, n, ivs, a, k b, c⟩⟩
theorem ints_head {ivs : List Value} {l : List Nat} (h : IntsAre ivs (l.map Int.ofNat)) (hl : l ≠ []) : ∃ t, ivs[0]? = some (.int (l.headD 0 : Nat) t) := by
  cases l with
  | nil => exact absurd rfl hl
  | cons a r =>
    obtain ⟨t, vs, rfl, _⟩ := IntsAre.cons_inv h
    exact ⟨t, rfl⟩
theorem ints_last {ivs : List Value} {l : List Nat} (h : IntsAre ivs (l.map Int.ofNat)) (hl : l ≠ []) : ∃ vs t, ivs = vs ++ [.int (l.getLastD 0 : Nat) t] := by
  induction l generalizing ivs with
  | nil => exact absurd rfl hl
  | cons a r ih =>
    obtain ⟨t, vs, rfl, hr⟩ := IntsAre.cons_inv h
    cases r with
    | nil =>
      obtain rfl := IntsAre.nil_inv hr
      exact ⟨[], t, rfl⟩
    | cons b r =>
      obtain ⟨vs2, t2, e⟩ := ih hr (by simp)
      refine ⟨.int (a : Nat) t :: vs2, t2, ?_⟩
      rw [e]
      simp [List.getLastD_eq_getLast?]
theorem tail_pick {prog : Program} {w : World} {A : Around} {E : Value → Shared → Prop} {s : Shared} {value slice : Expr} {la : Addr} {ivs : List Value} {n : Nat} {l : List Nat} {pk : Int} {tp : Tok} {Q : Value → Shared → Prop} (hpk : pk = 0 ∨ pk = -1)
    (ho : s.heap.get? la = some (lst ivs n)) (hI : IntsAre ivs (l.map Int.ofNat)) (hl : l ≠ []) (h : ∀ t, Q (.int (pickV pk l : Nat) t) s)
    (hs : subscripted slice false (.ref la) (.int pk tp) = operate [.ref la, .int pk tp] (getItem (.ref la) (.int pk tp)) := by with_unfolding_all rfl) :
    wpAny (model prog w) A (subscriptTail value slice (.ref la) (.int pk tp)) Q E s := by
  refine tail_any (isList_lst ho).typeIs slot_list_getitem.lookup ?_ hs
  rcases hpk with rfl | rfl
  · obtain ⟨t, e⟩ := ints_head hI hl
    exact wpAny_getItem_list (isList_lst ho) (by decide) (by decide) (by rw [List.getElem?_toArray]; exact e) (h t)
  · obtain ⟨vs, t, rfl⟩ := ints_last hI hl
    exact get_last ho (h t)
theorem beq_ofL2 (a b : List Nat) : (ofL a == ofL b) = decide (a = b) := by
  by_cases h : a = b
  · subst h; simp
  · rw [decide_eq_false h]
    exact beq_eq_false_iff_ne.mpr fun q => h (ofL_inj q)
theorem range1_FSo {prog : Program} {w : World} {A : Around} {E : Value → Shared → Prop} {s : Shared} {ts : List TabI} {g : Heap} {L : Addr} {m : Str → Option Value} {N : List (Addr × Obj)} {Q : Value → Shared → Prop} {b : Int} {u : Tok} (S : FS ts g L m N s.heap) (h : ∀ r ro t u v h' tk, ro = rngO 0 b t u v → FS ts g L m ((r, ro) :: N) h' → Q (.ref r) { s with heap := h', toks := tk }) :
    wpAny (model prog w) A (call (.type "range") [.int b u]) Q E s := range1_FS S fun r t v h' tk S => h r _ _ _ _ h' tk rfl S
theorem range2_FSo {prog : Program} {w : World} {A : Around} {E : Value → Shared → Prop} {s : Shared} {ts : List TabI} {g : Heap} {L : Addr} {m : Str → Option Value} {N : List (Addr × Obj)} {Q : Value → Shared → Prop} {a b : Int} {t u : Tok} (S : FS ts g L m N s.heap) (h : ∀ r ro t u v h' tk, ro = rngO a b t u v → FS ts g L m ((r, ro) :: N) h' → Q (.ref r) { s with heap := h', toks := tk }) :
    wpAny (model prog w) A (call (.type "range") [.int a t, .int b u]) Q E s := range2_FS S fun r v h' tk S => h r _ _ _ _ h' tk rfl S
theorem perm_mid {α : Type} (a b : List α) (c : α) (k : List α) : (a ++ (b ++ c :: k)).Perm (c :: (a ++ b ++ k)) := by
  rw [← List.append_assoc]
  exact List.perm_middle
theorem splitL_bounds2 (l : List Nat) : (splitL l).length ≤ l.length + 1 ∧ ∀ p ∈ splitL l, p.length ≤ l.length := by
  have h := split_bounds (ofL l) dots (by decide)
  have e := split_eq (ofL l)
  rw [toList_ofL] at e
  rw [ofL_length] at h
  refine ⟨by rw [← e, List.length_map]; exact h.1, fun p hp => ?_⟩
  rw [← e] at hp
  obtain ⟨q, hq, rfl⟩ := List.mem_map.mp hp
  rw [len_toList]
  exact h.2 q hq
theorem perm_cbad {α : Type} (a b c d : α) : [a, b, c, d].Perm ([c, b] ++ [a, d]) := (List.reverse_perm [c, b, a]).append_right [d]
theorem ints_range : ∀ (ys : List Value) (a : Nat), (∀ (j : Nat) (v : Value), ys[j]? = some v → ∃ t, v = .int ((a + j : Nat) : Int) t) → IntsAre ys ((List.range' a ys.length).map Int.ofNat)
  | [], a, _ => .nil
  | y :: ys, a, h => by
    obtain ⟨t, rfl⟩ := h 0 y rfl
    refine .cons _ _ (ints_range ys (a + 1) fun j v hv => ?_)
    obtain ⟨t, e⟩ := h (j + 1) v hv
    exact ⟨t, by rw [e]; congr 2; omega⟩
theorem list_range_FS {prog : Program} {w : World} {A : Around} {E : Value → Shared → Prop} {s : Shared} {ts : List TabI} {g : Heap} {L : Addr} {m : Str → Option Value} {N : List (Addr × Obj)} {Q : Value → Shared → Prop} {r : Addr} {a : Nat} {b : Int} {t u v : Tok} {n : Nat} (hh : A.handled = none)
    (S : FS ts g L m N s.heap) (hr : IsRange s.heap r a b 1 t u v) (ha' : a < 1000) (hb : -1000 ≤ b) (hb' : b < 1000) (hn : (n : Int) = if (a : Int) < b then b - a else 0)
    (h : ∀ D ys n' h' tk, IntsAre ys ((List.range' a n).map Int.ofNat) → FS ts g L m ((D, lst ys n') :: N) h' → Q (.ref D) { s with heap := h', toks := tk }) :
    wpAny (model prog w) A (call (.type "list") [.ref r]) Q E s := by
  have hz : Builtin.Range.rangeSize a b 1 = (n : Int) := by rw [hn]; exact rangeSize_one a b
  have hnl : n ≤ 2 ^ 24 := by split at hn <;> omega
  refine call_list_range hh hr (small_one (by omega) (by omega) (by omega) (by omega)) hz hnl fun h' tk acc c' hk hS' hacc => ?_
  have S' := (S.keepAll hk).add hS' S.ext.size (Nat.ne_of_gt S.lt) fun p hp => Nat.ne_of_lt (Heap.lt_size (S.news p hp).1)
  have hsz : acc.toList.length = n := by simpa using hacc.1
  refine h _ acc.toList c' h' tk ?_ (by simpa using S')
  have := ints_range acc.toList a fun j v hv => by
    obtain ⟨t, e⟩ := hacc.2 j v (by simpa using hv)
    exact ⟨t, by rw [e]; congr 1; omega⟩
  rwa [hsz] at this

/-! ## the ends -/
def hitB (p x : List Nat) (e : Nat) : Bool := decide ((x.take (e + p.length)).drop e = p)
def endsStep (x p : List Nat) (num : Nat) (ends : List Nat) : List Nat :=
  ((if num > 0 ∧ ends ≠ [] then List.range' (ends.headD 0) (x.length + 1 - ends.headD 0) else ends).filter (hitB p x)).map (· + p.length)
def endsGo (x : List Nat) : List (List Nat) → Nat → List Nat → List Nat
  | [], _, ends => ends
  | p :: r, num, ends => endsGo x r (num + 1) (endsStep x p num ends)
theorem endsStep_ok {x p : List Nat} {num : Nat} {ends : List Nat} (h : ∀ e ∈ ends, e ≤ x.length) (hl : ends.length ≤ x.length + 1) : (∀ e ∈ endsStep x p num ends, e ≤ x.length) ∧ (endsStep x p num ends).length ≤ x.length + 1 := by
  unfold endsStep
  have hsrc : ∀ e ∈ (if num > 0 ∧ ends ≠ [] then List.range' (ends.headD 0) (x.length + 1 - ends.headD 0) else ends), e ≤ x.length := by
    split
    · intro e he
      rw [List.mem_range'_1] at he
      omega
    · exact h
  have hsl : (if num > 0 ∧ ends ≠ [] then List.range' (ends.headD 0) (x.length + 1 - ends.headD 0) else ends).length ≤ x.length + 1 := by
    split
    · rw [List.length_range']; omega
    · exact hl
  constructor
  · intro e he
    obtain ⟨e', he', rfl⟩ := List.mem_map.mp he
    obtain ⟨h1, h2⟩ := List.mem_filter.mp he'
    have h3 := hsrc e' h1
    have h4 := of_decide_eq_true h2
    have h5 := congrArg List.length h4
    simp at h5
    omega
  · rw [List.length_map]
    exact Nat.le_trans (List.length_filter_le _ _) hsl
/-! ## the counted matches -/
def cntGo (En : Nat → List Nat) (pk : Int) : Nat → Nat → List (Nat × Nat) → List (Nat × Nat)
  | 0, _, c => c
  | n + 1, f, c => cntGo En pk n (f + 1) (if En f ≠ [] ∧ (c = [] ∨ (c.getLastD (0, 0)).2 ≤ f) then c ++ [(f, pickV pk (En f))] else c)
def PairsIn (M : List (Addr × Obj)) (cvs : List Value) (c : List (Nat × Nat)) : Prop :=
  cvs.length = c.length ∧ ∀ i, i < c.length → ∃ a t1 t2, cvs[i]? = some (.ref a) ∧ (a, tpl [.int ((c.getD i (0, 0)).1 : Nat) t1, .int ((c.getD i (0, 0)).2 : Nat) t2] 0) ∈ M
theorem PairsIn.mono {M M' : List (Addr × Obj)} {cvs : List Value} {c : List (Nat × Nat)} (h : PairsIn M cvs c) (k : M ⊆ M') : PairsIn M' cvs c :=
  ⟨h.1, fun i hi => let ⟨a, t1, t2, e, m⟩ := h.2 i hi; ⟨a, t1, t2, e, k m⟩⟩
theorem PairsIn.snoc {M : List (Addr × Obj)} {cvs : List Value} {c : List (Nat × Nat)} {a : Addr} {p : Nat × Nat} {t1 t2 : Tok} (h : PairsIn M cvs c) : PairsIn ((a, tpl [.int (p.1 : Nat) t1, .int (p.2 : Nat) t2] 0) :: M) (cvs ++ [.ref a]) (c ++ [p]) := by
  refine ⟨by simp [h.1], fun i hi => ?_⟩
  rw [List.length_append, List.length_singleton] at hi
  by_cases hl : i < c.length
  · obtain ⟨b, u1, u2, e, m⟩ := h.2 i hl
    refine ⟨b, u1, u2, ?_, ?_⟩
    · rw [List.getElem?_append_left (by rw [h.1]; exact hl)]; exact e
    · rw [List.getD_eq_getElem?_getD, List.getElem?_append_left hl, ← List.getD_eq_getElem?_getD]
      exact .tail _ m
  · obtain rfl : i = c.length := by omega
    refine ⟨a, t1, t2, ?_, ?_⟩
    · rw [← h.1]; simp
    · have : (c ++ [p]).getD c.length (0, 0) = p := by simp [List.getD_eq_getElem?_getD]
      rw [this]; exact .head _
theorem PairsIn.last {M : List (Addr × Obj)} {cvs : List Value} {c : List (Nat × Nat)} (h : PairsIn M cvs c) (hne : c ≠ []) : ∃ a t1 t2, cvs.getLast? = some (.ref a) ∧ (a, tpl [.int ((c.getLastD (0, 0)).1 : Nat) t1, .int ((c.getLastD (0, 0)).2 : Nat) t2] 0) ∈ M := by
  have hl : 0 < c.length := List.length_pos_iff.mpr hne
  obtain ⟨a, t1, t2, e, m⟩ := h.2 (c.length - 1) (by omega)
  refine ⟨a, t1, t2, ?_, ?_⟩
  · rw [List.getLast?_eq_getElem?, h.1]; exact e
  · have : c.getLastD (0, 0) = c.getD (c.length - 1) (0, 0) := by rw [List.getLastD_eq_getLast?, List.getLast?_eq_getElem?, List.getD_eq_getElem?_getD]
    rw [this]; exact m
theorem cntGo_len (En : Nat → List Nat) (pk : Int) : ∀ n f c, (cntGo En pk n f c).length ≤ c.length + n
  | 0, _, c => by simp [cntGo]
  | n + 1, f, c => by
    rw [cntGo]
    have := cntGo_len En pk n (f + 1) (if En f ≠ [] ∧ (c = [] ∨ (c.getLastD (0, 0)).2 ≤ f) then c ++ [(f, pickV pk (En f))] else c)
    split at this <;> simp at this ⊢ <;> split <;> simp_all <;> omega
theorem endsGo_ok (x : List Nat) : ∀ (ps : List (List Nat)) (num : Nat) (ends : List Nat), (∀ e ∈ ends, e ≤ x.length) → ends.length ≤ x.length + 1 → (∀ e ∈ endsGo x ps num ends, e ≤ x.length) ∧ (endsGo x ps num ends).length ≤ x.length + 1
  | [], _, ends, h1, h2 => ⟨h1, h2⟩
  | p :: r, num, ends, h1, h2 => by
    rw [endsGo]
    have := endsStep_ok (p := p) (num := num) h1 h2
    exact endsGo_ok x r (num + 1) _ this.1 this.2
section
open PySem.Spec SeqAt
variable {prog : Program} {w : World} {A : Around} {E : Value → Shared → Prop} {s : Shared} {Q : Value → Shared → Prop}
theorem reads_pair {h : Heap} {a : Addr} {i j : Int} {t1 t2 : Tok} {n : Nat} (e : h.get? a = some (tpl [.int i t1, .int j t2] n)) : Reads h (.ref a) (.tuple [.int i, .int j]) [] :=
  .tuple e rfl rfl (readsAll_of_ints (ns := [i, j]) (.cons _ _ (.cons _ _ .nil)))
theorem ne_pair {a b : Addr} {i j : Int} {t1 t2 u1 u2 : Tok} {n m : Nat} (ha : s.heap.get? a = some (tpl [.int i t1, .int j t2] n)) (hb : s.heap.get? b = some (tpl [.int i u1, .int j u2] m)) (hu : A.units + 64 < cLine) (h : Q (.bool false) s) :
    wpAny (model prog w) A (compareOp .NotEq (.ref a) (.ref b)) Q E s := by
  refine ne_dataH_same (reads_pair ha) (reads_pair hb) ?_ ?_ hu ?_ ?_
  · rfl
  · rfl
  · rfl
  · simp only [PySem.Spec.same, PySem.Spec.sameAll]
    simpa using h
end
theorem PairsIn.snocR {M : List (Addr × Obj)} {cvs : List Value} {c : List (Nat × Nat)} {a : Addr} {p : Nat × Nat} {t1 t2 : Tok} (h : PairsIn M cvs c) (hm : (a, tpl [.int (p.1 : Nat) t1, .int (p.2 : Nat) t2] 0) ∈ M) : PairsIn M (cvs ++ [.ref a]) (c ++ [p]) :=
  (h.snoc (a := a) (p := p) (t1 := t1) (t2 := t2)).mono (by
    intro q hq
    rcases List.mem_cons.mp hq with rfl | hq
    · exact hm
    · exact hq)
def tabT (pt tx : Str) : List (List Nat) := (List.range (tx.length + 1)).map fun f => (List.range' f (tx.length + 1 - f)).filter fun b => emB pt (ofL ((tx.cps.toList.take b).drop f))
def okP (col : Int) (p : Nat × Nat) : Bool := decide ((p.1 : Int) < col) && decide ((p.2 : Int) ≤ col)
theorem tabT_get {pt tx : Str} {f : Nat} (hf : f ≤ tx.length) : (tabT pt tx).getD f [] = (List.range' f (tx.length + 1 - f)).filter fun b => emB pt (ofL ((tx.cps.toList.take b).drop f)) := by
  unfold tabT
  rw [List.getD_eq_getElem?_getD, List.getElem?_map, List.getElem?_range (by omega)]
  rfl
theorem nxtT_bound {pt tx : Str} {pk : Int} (hpk : pk = 0 ∨ pk = -1) {st i j : Nat} (h : nxtT (tabT pt tx) pk tx.length st = some (i, j)) : st ≤ i ∧ i ≤ j ∧ j ≤ tx.length := by
  unfold nxtT at h
  rw [Option.map_eq_some_iff] at h
  obtain ⟨p, hp, e⟩ := h
  cases e
  obtain ⟨h1, h2, h3, h4⟩ := findFrom_some hp
  have hne := of_decide_eq_true h3
  have hmem : pickV pk ((tabT pt tx).getD i []) ∈ (tabT pt tx).getD i [] := by
    generalize (tabT pt tx).getD i [] = l at *
    unfold pickV
    rcases hpk with rfl | rfl
    · cases l with
      | nil => exact absurd rfl hne
      | cons a b => exact .head _
    · rw [if_neg (by decide), List.getLastD_eq_getLast?]
      cases hq : l.getLast? with
      | none => simp at hq; exact absurd hq hne
      | some y => exact List.mem_of_getLast? hq
  rw [tabT_get (by omega)] at hmem
  have h5 := (List.mem_filter.mp hmem).1
  rw [← tabT_get (pt := pt) (by omega), List.mem_range'_1] at h5
  omega
theorem asc_eq : ∀ (a b : List Nat), a.Pairwise (· < ·) → b.Pairwise (· < ·) → (∀ x, x ∈ a ↔ x ∈ b) → a = b
  | [], [], _, _, _ => rfl
  | [], y :: b, _, _, h => absurd ((h y).mpr (.head _)) (by simp)
  | x :: a, [], _, _, h => absurd ((h x).mp (.head _)) (by simp)
  | x :: a, y :: b, ha, hb, h => by
    obtain ⟨ha1, ha2⟩ := List.pairwise_cons.mp ha
    obtain ⟨hb1, hb2⟩ := List.pairwise_cons.mp hb
    have hxy : x = y := by
      rcases List.mem_cons.mp ((h x).mp (.head _)) with q | q
      · exact q
      · rcases List.mem_cons.mp ((h y).mpr (.head _)) with r | r
        · exact r.symm
        · have h1 := hb1 x q
          have h2 := ha1 y r
          omega
    subst hxy
    rw [asc_eq a b ha2 hb2 fun z => ⟨fun hz => ?_, fun hz => ?_⟩]
    · rcases List.mem_cons.mp ((h z).mp (.tail _ hz)) with q | q
      · have := ha1 z hz; omega
      · exact q
    · rcases List.mem_cons.mp ((h z).mpr (.tail _ hz)) with q | q
      · have := hb1 z hz; omega
      · exact q
def Rch (x : List Nat) : List (List Nat) → Nat → Nat → Prop
  | [], e, b => b = e
  | p :: r, e, b => ∃ e', e ≤ e' ∧ e' ≤ x.length ∧ hitB p x e' = true ∧ Rch x r (e' + p.length) b
theorem endsStep_asc {x p : List Nat} {num : Nat} {ends : List Nat} (h : ends.Pairwise (· < ·)) : (endsStep x p num ends).Pairwise (· < ·) := by
  unfold endsStep
  rw [List.pairwise_map]
  refine List.Pairwise.imp (R := (· < ·)) (fun h => by omega) (List.Pairwise.filter _ ?_)
  split
  · exact List.pairwise_lt_range'
  · exact h
theorem endsGo_asc (x : List Nat) : ∀ (ps : List (List Nat)) (num : Nat) (ends : List Nat), ends.Pairwise (· < ·) → (endsGo x ps num ends).Pairwise (· < ·)
  | [], _, _, h => h
  | p :: r, num, ends, h => by rw [endsGo]; exact endsGo_asc x r _ _ (endsStep_asc h)
theorem step_mem {x p : List Nat} {num : Nat} {ends : List Nat} (hn : num > 0) (h : ends.Pairwise (· < ·)) (b : Nat) : b ∈ endsStep x p num ends ↔ ∃ e ∈ ends, ∃ e', e ≤ e' ∧ e' ≤ x.length ∧ hitB p x e' = true ∧ b = e' + p.length := by
  unfold endsStep
  cases ends with
  | nil => simp
  | cons a r =>
    rw [if_pos ⟨hn, by simp⟩]
    simp only [List.headD_cons, List.mem_map, List.mem_filter, List.mem_range'_1]
    constructor
    · rintro ⟨e', ⟨⟨h1, h2⟩, h3⟩, rfl⟩
      exact ⟨a, .head _, e', h1, by omega, h3, rfl⟩
    · rintro ⟨e, he, e', h1, h2, h3, rfl⟩
      have : a ≤ e := by
        rcases List.mem_cons.mp he with q | q
        · omega
        · exact Nat.le_of_lt ((List.pairwise_cons.mp h).1 e q)
      exact ⟨e', ⟨⟨by omega, by omega⟩, h3⟩, rfl⟩
theorem ends_mem (x : List Nat) : ∀ (r : List (List Nat)) (num : Nat) (ends : List Nat), num > 0 → ends.Pairwise (· < ·) → ∀ b, b ∈ endsGo x r num ends ↔ ∃ e ∈ ends, Rch x r e b
  | [], num, ends, _, _, b => by simp [endsGo, Rch]
  | p :: r, num, ends, hn, h, b => by
    rw [endsGo, ends_mem x r (num + 1) _ (by omega) (endsStep_asc h) b]
    constructor
    · rintro ⟨e2, he2, hr⟩
      obtain ⟨e, he, e', h1, h2, h3, rfl⟩ := (step_mem hn h e2).mp he2
      exact ⟨e, he, e', h1, h2, h3, hr⟩
    · rintro ⟨e, he, e', h1, h2, h3, hr⟩
      exact ⟨_, (step_mem hn h _).mpr ⟨e, he, e', h1, h2, h3, rfl⟩, hr⟩
theorem hit_len {x p : List Nat} {e : Nat} (he : e ≤ x.length) (h : hitB p x e = true) : e + p.length ≤ x.length := by
  have := congrArg List.length (of_decide_eq_true h)
  simp at this
  omega
theorem rch_le {x : List Nat} : ∀ {r : List (List Nat)} {e b : Nat}, e ≤ x.length → Rch x r e b → e ≤ b ∧ b ≤ x.length
  | [], e, b, he, h => by have h : b = e := h; omega
  | p :: r, e, b, he, ⟨e', h1, h2, h3, h4⟩ => by
    have := hit_len h2 h3
    have := rch_le this h4
    omega
theorem seg_split {x u v : List Nat} {f b : Nat} (h1 : f ≤ b) (h2 : b ≤ x.length) (e : (x.take b).drop f = u ++ v) : f + u.length + v.length = b ∧ (x.take (f + u.length)).drop f = u ∧ (x.take b).drop (f + u.length) = v := by
  have hl := congrArg List.length e
  simp at hl
  refine ⟨by omega, ?_, ?_⟩
  · have := congrArg (List.take u.length) e
    rw [List.take_left, List.drop_take, List.take_take] at this
    rw [List.drop_take, Nat.add_sub_cancel_left]
    rwa [show min u.length (b - f) = u.length by omega] at this
  · have := congrArg (List.drop u.length) e
    rw [List.drop_left, List.drop_drop] at this
    exact this
theorem seg_join {x : List Nat} {f m b : Nat} (h1 : f ≤ m) (h2 : m ≤ b) (h3 : b ≤ x.length) : (x.take b).drop f = (x.take m).drop f ++ (x.take b).drop m := by
  have h := List.take_append_drop (m - f) ((x.take b).drop f)
  rw [List.drop_drop, show f + (m - f) = m by omega] at h
  rw [← h]
  congr 1
  rw [List.drop_take, List.drop_take, List.take_take, show min (m - f) (b - f) = m - f by omega]
theorem mt_rch {x : List Nat} : ∀ (r : List (List Nat)) (p : List Nat) (f b : Nat), f ≤ x.length → ((f ≤ b ∧ b ≤ x.length ∧ MT (p :: r) ((x.take b).drop f)) ↔ (hitB p x f = true ∧ Rch x r (f + p.length) b))
  | [], p, f, b, hf => by
    constructor
    · rintro ⟨h1, h2, h3⟩
      have h3 : (x.take b).drop f = p := h3
      have hl := congrArg List.length h3
      simp at hl
      have : b = f + p.length := by omega
      subst this
      exact ⟨decide_eq_true h3, rfl⟩
    · rintro ⟨h1, h2⟩
      have h2 : b = f + p.length := h2
      subst h2
      have h6 : (x.take (f + p.length)).drop f = p := of_decide_eq_true h1
      exact ⟨by omega, hit_len hf h1, h6⟩
  | q :: r, p, f, b, hf => by
    constructor
    · rintro ⟨h1, h2, u, v, e, hv⟩
      obtain ⟨l1, e1, e2⟩ := seg_split h1 h2 e
      rw [List.length_append] at l1
      obtain ⟨l2, e3, e4⟩ := seg_split (by omega) h2 e2
      have ih := (mt_rch r q (f + p.length + u.length) b (by omega)).mp ⟨by omega, h2, e4 ▸ hv⟩
      exact ⟨decide_eq_true e1, _, by omega, by omega, ih.1, ih.2⟩
    · rintro ⟨h1, e', h2, h3, h4, h5⟩
      obtain ⟨i1, i2, i3⟩ := (mt_rch r q e' b h3).mpr ⟨h4, h5⟩
      refine ⟨by omega, i2, (x.take e').drop (f + p.length), (x.take b).drop e', ?_, i3⟩
      rw [seg_join (m := f + p.length) (by omega) (by omega) i2, of_decide_eq_true h1, ← seg_join (by omega) i1 i2]
theorem row_eq {pt tx : Str} {f : Nat} (hf : f ≤ tx.length) : (tabT pt tx).getD f [] = endsGo tx.cps.toList (splitL pt.cps.toList) 0 [f] := by
  have hxl := len_toList tx
  rw [tabT_get hf]
  refine asc_eq _ _ (List.Pairwise.filter _ List.pairwise_lt_range') (endsGo_asc _ _ _ _ (List.pairwise_singleton _ _)) fun b => ?_
  rw [List.mem_filter, List.mem_range'_1, emB_iff, toList_ofL]
  generalize hx : tx.cps.toList = x at *
  cases hs : splitL pt.cps.toList with
  | nil => exact absurd hs (splitL_ne _)
  | cons p r =>
    rw [endsGo, ends_mem x r 1 _ (by omega) (endsStep_asc (List.pairwise_singleton _ _))]
    have key := mt_rch (x := x) r p f b (by omega)
    have h0 : ∀ e, e ∈ endsStep x p 0 [f] ↔ hitB p x f = true ∧ e = f + p.length := by
      intro e
      unfold endsStep
      rw [if_neg (by omega)]
      simp only [List.mem_map, List.mem_filter, List.mem_singleton]
      constructor
      · rintro ⟨a, ⟨rfl, h⟩, rfl⟩; exact ⟨h, rfl⟩
      · rintro ⟨h, rfl⟩; exact ⟨f, ⟨rfl, h⟩, rfl⟩
    constructor
    · rintro ⟨⟨h1, h2⟩, h3⟩
      obtain ⟨k1, k2⟩ := key.mp ⟨h1, by omega, h3⟩
      exact ⟨_, (h0 _).mpr ⟨k1, rfl⟩, k2⟩
    · rintro ⟨e, he, hr⟩
      obtain ⟨k1, rfl⟩ := (h0 e).mp he
      obtain ⟨k2, k3, k4⟩ := key.mpr ⟨k1, hr⟩
      exact ⟨⟨k2, by omega⟩, k4⟩
/-! ## the chain -/
def stOf (m : Nat × Nat) : Nat := if m.1 = m.2 then m.2 + 1 else m.2
def chn (nxt : Nat → Option (Nat × Nat)) : Nat → Nat × Nat → List (Nat × Nat)
  | 0, _ => []
  | k + 1, m => m :: (match nxt (stOf m) with | none => [] | some m' => chn nxt k m')
theorem chn_mono {nxt : Nat → Option (Nat × Nat)} (hb : ∀ st i j, nxt st = some (i, j) → st ≤ i ∧ i ≤ j) : ∀ (k : Nat) (m : Nat × Nat), m.1 ≤ m.2 → ∀ q ∈ chn nxt k m, m.1 ≤ q.1 ∧ m.2 ≤ q.2
  | 0, _, _, q, hq => by cases hq
  | k + 1, m, hm, q, hq => by
    rw [chn] at hq
    rcases List.mem_cons.mp hq with rfl | hq
    · exact ⟨Nat.le_refl _, Nat.le_refl _⟩
    · cases hn : nxt (stOf m) with
      | none => rw [hn] at hq; cases hq
      | some m' =>
        rw [hn] at hq
        obtain ⟨h1, h2⟩ := hb _ _ _ hn
        obtain ⟨h3, h4⟩ := chn_mono hb k m' h2 q hq
        unfold stOf at h1
        split at h1 <;> omega
theorem srGo_chn {nxt : Nat → Option (Nat × Nat)} {col : Int} (hb : ∀ st i j, nxt st = some (i, j) → st ≤ i ∧ i ≤ j) : ∀ (k : Nat) (found : Option (Nat × Nat)) (m : Nat × Nat), m.1 ≤ m.2 →
    srGo nxt col k found m = (((chn nxt k m).filter (okP col)).getLast?).or found
  | 0, found, m, hm => by simp [srGo, chn]
  | k + 1, found, m, hm => by
    rw [srGo]
    by_cases hc : (m.1 : Int) < col ∧ (m.2 : Int) ≤ col
    · rw [if_pos hc, chn]
      have hok : okP col m = true := by simp [okP, hc.1, hc.2]
      rw [List.filter_cons_of_pos hok]
      show (match nxt (stOf m) with | none => some m | some m' => srGo nxt col k (some m) m') = _
      cases hn : nxt (stOf m) with
      | none => simp
      | some m' =>
        dsimp only
        rw [srGo_chn hb k (some m) m' (hb _ _ _ hn).2, List.getLast?_cons]
        generalize List.filter (okP col) (chn nxt k m') = F
        cases hF : F.getLast? with
        | none => simp
        | some z => simp
    · rw [if_neg hc]
      have : (chn nxt (k + 1) m).filter (okP col) = [] := by
        rw [List.filter_eq_nil_iff]
        intro q hq hk
        obtain ⟨h1, h2⟩ := chn_mono hb (k + 1) m hm q hq
        simp only [okP, Bool.and_eq_true, decide_eq_true_eq] at hk
        exact hc ⟨by omega, by omega⟩
      rw [this]; rfl
theorem cnt_chn {T : List (List Nat)} {En : Nat → List Nat} {pk : Int} {n : Nat} (hE : ∀ f, f ≤ n → T.getD f [] = En f) (hV : ∀ f, f ≤ n → En f ≠ [] → f ≤ pickV pk (En f)) :
    ∀ (k f : Nat) (c : List (Nat × Nat)) (st fuel : Nat), f + k = n + 1 → f ≤ st → (∀ f', f ≤ f' → ((c = [] ∨ (c.getLastD (0, 0)).2 ≤ f') ↔ st ≤ f')) → k ≤ fuel →
      cntGo En pk k f c = c ++ (match nxtT T pk n st with | none => [] | some m => chn (nxtT T pk n) fuel m)
  | 0, f, c, st, fuel, h1, h2, h3, h4 => by
    have : nxtT T pk n st = none := by
      unfold nxtT
      rw [show n + 1 - st = 0 by omega]; rfl
    rw [this, cntGo, List.append_nil]
  | k + 1, f, c, st, fuel, h1, h2, h3, h4 => by
    rw [cntGo]
    by_cases hlt : f < st
    · rw [if_neg (fun q => by have := (h3 f (Nat.le_refl _)).mp q.2; omega)]
      exact cnt_chn hE hV k (f + 1) c st fuel (by omega) (by omega) (fun f' hf' => h3 f' (by omega)) (by omega)
    · obtain rfl : f = st := by omega
      have hfn : f ≤ n := by omega
      have hnx : nxtT T pk n f = if En f ≠ [] then some (f, pickV pk (En f)) else nxtT T pk n (f + 1) := by
        unfold nxtT
        rw [show n + 1 - f = (n + 1 - (f + 1)) + 1 by omega, findFrom, hE f hfn]
        by_cases hne : En f ≠ []
        · rw [if_pos (decide_eq_true hne), if_pos hne, Option.map_some, hE f hfn]
        · rw [if_neg (by simpa using hne), if_neg hne]
      by_cases hne : En f ≠ []
      · rw [if_pos ⟨hne, (h3 f (Nat.le_refl _)).mpr (Nat.le_refl _)⟩, hnx, if_pos hne]
        obtain ⟨fuel, rfl⟩ : ∃ q, fuel = q + 1 := ⟨fuel - 1, by omega⟩
        have hv := hV f hfn hne
        generalize hm : (f, pickV pk (En f)) = m at *
        have hm1 : m.1 = f := by rw [← hm]
        have hm2 : f ≤ m.2 := by rw [← hm]; exact hv
        have hlast : (c ++ [m]).getLastD (0, 0) = m := by simp [List.getLastD_eq_getLast?]
        rw [cnt_chn hE hV k (f + 1) (c ++ [m]) (stOf m) fuel (by omega) (by unfold stOf; split <;> omega) (fun f' hf' => by
          rw [hlast]
          unfold stOf
          constructor
          · rintro (q | q)
            · simp at q
            · split <;> omega
          · intro q
            right
            split at q <;> omega) (by omega)]
        dsimp only
        rw [chn, List.append_assoc]; rfl
      · rw [if_neg (fun q => hne q.1), hnx, if_neg hne]
        exact cnt_chn hE hV k (f + 1) c (f + 1) fuel (by omega) (by omega) (fun f' hf' => ⟨fun _ => hf', fun _ => (h3 f' (by omega)).mpr (by omega)⟩) (by omega)
theorem law2_ok {pt tx : Str} {pk : Int} (hpk : pk = 0 ∨ pk = -1) (col : Int) :
    srB (nxtT (tabT pt tx) pk tx.length) col (tx.length + 1) = ((cntGo (fun f => endsGo tx.cps.toList (splitL pt.cps.toList) 0 [f]) pk (tx.length + 1) 0 []).filter (okP col)).getLast? := by
  have hb : ∀ st i j, nxtT (tabT pt tx) pk tx.length st = some (i, j) → st ≤ i ∧ i ≤ j := fun st i j h => ⟨(nxtT_bound hpk h).1, (nxtT_bound hpk h).2.1⟩
  have hV : ∀ f, f ≤ tx.length → endsGo tx.cps.toList (splitL pt.cps.toList) 0 [f] ≠ [] → f ≤ pickV pk (endsGo tx.cps.toList (splitL pt.cps.toList) 0 [f]) := fun f hf hne => by
    rw [← row_eq hf] at hne ⊢
    have h1 : nxtT (tabT pt tx) pk tx.length f = some (f, pickV pk ((tabT pt tx).getD f [])) := by
      unfold nxtT
      rw [show tx.length + 1 - f = (tx.length + 1 - (f + 1)) + 1 by omega, findFrom, if_pos (decide_eq_true hne), Option.map_some]
    exact (nxtT_bound hpk h1).2.1
  rw [cnt_chn (T := tabT pt tx) (n := tx.length) (fun f hf => row_eq hf) hV (tx.length + 1) 0 [] 0 (tx.length + 1) (by omega) (Nat.le_refl _) (fun f' _ => ⟨fun _ => Nat.zero_le _, fun _ => .inl rfl⟩) (Nat.le_refl _)]
  unfold srB
  cases hn : nxtT (tabT pt tx) pk tx.length 0 with
  | none => rfl
  | some m =>
    dsimp only
    rw [srGo_chn hb _ _ _ (hb _ _ _ hn).2, List.nil_append]
    simp
end Mine
namespace Mine
theorem FS.leave2 {ts : List TabI} {g h : Heap} {L L' : Addr} {m m' : Str → Option Value} {N : List (Addr × Obj)} {oL : Obj} {N₁ : List (Addr × Obj)} (S : FS ts g L' m' (N₁ ++ (L, oL) :: N) h) (hc : NoCode oL) (hns : ∀ h'' : Heap, h''.get? L = some oL → h''.Ns L m) :
    ∃ oL', NoCode oL' ∧ (∀ h'' : Heap, h''.get? L' = some oL' → h''.Ns L' m') ∧ FS ts g L m ((L', oL') :: (N₁ ++ N)) h := by
  obtain ⟨o', hno, S2⟩ := S.leave hc hns
  refine ⟨o', hno, fun h'' e'' => ?_, S2⟩
  obtain ⟨o2, es, ep, e, hd, r⟩ := S.ns
  have e3 := (S2.news (L', o') (.head _)).1
  rw [e] at e3; cases e3
  exact ⟨_, es, ep, e'', hd, r⟩

section
variable {M : Model} {A : Around} {E : Value → Shared → Prop} {s : Shared} {env : Env}
theorem wpAny_compGU {e : Expr} {scope : Scope} {pos : Pos} {newAcc first : Sem Value} {gg : Comprehension} {gs : List Comprehension} {u : Value → Sem Unit} {Q : Value → Shared → Prop} {clos : List (Str × Addr)} {names' : List (Str × NameKind)}
    (hcl : clausesOf e = gg :: gs) (hs : ∀ x, foldedSetIterable gg.iter env x = pure x) (hclos : closureFor scope env = pure clos) (hkind : scope.kind = .function)
    (hn' : (scope.names.map fun (n, k) => if (k == .free && env.scope.kind == .function && env.kindOf n == some .cell) = true then (n, NameKind.cell) else (n, k)) = names')
    (hnames : ∀ x ∈ scope.names, x.2 = .local → names'.lookup x.1 = some .local)
    (h : wpAny M A first (fun x s₁ => wpAny M A (pyIter x) (fun it s₂ => wpAny M A newAcc (fun acc s₃ =>
      wpAny M A (newFunctionEnv scope env.globals clos [] env.qual none .none (some env)) (fun cenv s₄ =>
        codeAny M A (.compStart e 0 it acc { cenv with scope := { scope with names := names' } }) (fun r s' => match r with
          | .ok _ => wpAny M A (u acc) (fun _ s'' => ∃ m, s''.heap.Ns cenv.locals m ∧ ∀ h', Heap.SameBut cenv.locals s''.heap h' → Q .none { s'' with heap := h' }) E s'
          | .error x => ∃ m, s'.heap.Ns cenv.locals m ∧ ∀ h', Heap.SameBut cenv.locals s'.heap h' → wpAny M A (passOn "comprehension.variables-let-go" x { cenv with scope := { scope with names := names' } }) Q E { s' with heap := h' }) s₄) E s₃) E s₂) E s₁) E s) :
    wpAny M A (comprehension e scope env pos newAcc false first (some u)) Q E s := by
  unfold comprehension
  rw [hclos, hcl]
  refine wpAny_bind (wpAny_mono h (fun x s₁ h₁ => wpAny_bind (wpAny_standAt (wpAny_bind (wpAny_of_eq (hs x) (wpAny_bind (wpAny_holding (wpAny_mono h₁ (fun it s₂ h₂ =>
    wpAny_standIf (wpAny_bind (wpAny_mono h₂ (fun acc s₃ h₃ => wpAny_bind (wpAny_pure (wpAny_bind (wpAny_mono h₃ (fun cenv s₄ h₄ => ?_) fun _ _ h' => h')))) fun _ _ h' => h')))
      fun _ _ h' => h'))))))) fun _ _ h' => h')
  dsimp only
  rw [hn']
  have hv : ∀ x ∈ (scope.names.filter fun x => (x.2 == .local || x.2 == .cell) && x.1 != (".0" : Str)).reverse, x.2 = .local →
      Env.kindOf { cenv with scope := { scope with names := names' } } x.1 = some .local := fun x hx hl => hnames x (List.mem_filter.mp (List.mem_reverse.mp hx)).1 hl
  have hv' : ∀ x ∈ (scope.names.filter fun x => (x.2 == .local || x.2 == .cell) && x.1 != (".0" : Str)).reverse.drop 1 ++ (scope.names.filter fun x => (x.2 == .local || x.2 == .cell) && x.1 != (".0" : Str)).reverse.take 1,
      x.2 = .local → Env.kindOf { cenv with scope := { scope with names := names' } } x.1 = some .local := fun x hx hl => by
    rcases List.mem_append.mp hx with h1 | h1
    · exact hv x (List.mem_of_mem_drop h1) hl
    · exact hv x (List.mem_of_mem_take h1) hl
  refine wpAny_holding (wpAny_bind (wpAny_attempt (wpAny_holding (wpAny_run (codeAny_mono h₄ fun r s' hr => ?_)))))
  cases r with
  | ok f =>
    refine wpAny_bind (wpAny_rule (wpAny_bind (wpAny_holding (wpAny_mono hr (fun _ s'' hr' => ?_) fun _ _ h' => h'))))
    obtain ⟨m, hn, hr'⟩ := hr'
    exact wpAny_bind (wpAny_comp_letGo (cenv := { cenv with scope := { scope with names := names' } }) hkind _ s'' m hv' hn fun h' m' _ hs' => wpAny_pure (hr' h' hs'))
  | error x =>
    obtain ⟨m, hn, hr⟩ := hr
    exact wpAny_bind (wpAny_holding (wpAny_comp_letGo (cenv := { cenv with scope := { scope with names := names' } }) hkind _ s' m hv hn fun h' m' _ hs' => hr h' hs'))
end

section
variable {prog : Program} {w : World} {A : Around} {s : Shared} {ts : List TabI} {g : Heap} {E : Value → Shared → Prop} {env : Env} {kinds : List (Str × NameKind)} {cells : List (Str × Addr)} {qual : Str} {code : Value} {N : List (Addr × Obj)} {ns : List Str} {vs : List (Option Value)}

/-- y = [.. for x in a list ..], y a local name -/
theorem Assign_comp {elt iter : Expr} {x y : Str} {px py pos spos : Pos} {ifs : List Expr} {scope : Scope} {clos : List (Str × Addr)} {names' : List (Str × NameKind)} {Q : Flow → Shared → Prop} {l : Addr} {items : List Value} {iy : Nat}
    (hsw : swapsWith (.ListComp elt [⟨.Name x px, iter, ifs, 0⟩] scope pos) (some (.Name y py)) spos.line env = pure true)
    (hh : A.handled = none) (hl : ∀ h L m N', FS ts g L m (N' ++ N) h → h.IsList l items.toArray)
    (e : EnvOk env kinds cells qual code) (S : FS ts g env.locals (amap ns vs) N s.heap)
    (hit : ∀ Q' : Value → Shared → Prop, Q' (.ref l) s → wpAny (model prog w) A (eval iter env) Q' E s)
    (hclos : closureFor scope env = pure clos) (hkind : scope.kind = .function)
    (hn' : (scope.names.map fun (n, k) => if (k == .free && env.scope.kind == .function && env.kindOf n == some .cell) = true then (n, NameKind.cell) else (n, k)) = names')
    (hnames : ∀ x ∈ scope.names, x.2 = .local → names'.lookup x.1 = some .local)
    (hnc : ∀ x ∈ scope.names, x.2 ≠ .cell) (hx : names'.lookup x = some .local)
    (hy : kinds.lookup y = some .local) (hiy : ns.idxOf y = iy) (hly : iy < ns.length) (hlen : ns.length = vs.length)
    (J : Nat → List Value → Prop) (h0 : J 0 []) (hJ : ∀ i ys, J i ys → ys.length ≤ 5000)
    (step : ∀ cenv, EnvOk cenv names' clos qual code → ∀ i v ys N₁ N₂ h tk (E' : Value → Shared → Prop), items[i]? = some v → J i ys → FS ts g cenv.locals (amap [x] [some v]) (N₁ ++ (N₂ ++ N)) h →
      wpAny (model prog w) A (tests ifs cenv) (fun ok s₃ =>
        if ok = true then wpAny (model prog w) A (eval elt cenv) (fun y s₄ => ∃ N₁' vx h4 tk4, s₄ = { s with heap := h4, toks := tk4 } ∧ FS ts g cenv.locals (amap [x] [vx]) (N₁' ++ (N₂ ++ N)) h4 ∧ J (i + 1) (ys ++ [y])) E' s₃
        else ∃ N₁' vx h4 tk4, s₃ = { s with heap := h4, toks := tk4 } ∧ FS ts g cenv.locals (amap [x] [vx]) (N₁' ++ (N₂ ++ N)) h4 ∧ J (i + 1) ys) E' { s with heap := h, toks := tk })
    (done : ∀ D ys nD h tk, J items.length ys → FS ts g env.locals (amap ns (vs.set iy (some (.ref D)))) ((D, lst ys nD) :: N) h → Q .next { s with heap := h, toks := tk })
    (hs : ∀ x, foldedSetIterable iter env x = pure x := by intro _; rfl) :
    wpAny (model prog w) A (exec (.Assign [.Name y py] (.ListComp elt [⟨.Name x px, iter, ifs, 0⟩] scope pos) spos) env) Q E s := by
  rw [exec_Assign_Name_used _ _ _ _ hsw]
  refine wpAny_bind (wpAny_standAt (wpAny_bind ?_))
  show wpAny _ A (do let _ ← comprehension (.ListComp elt [⟨.Name x px, iter, ifs, 0⟩] scope pos) scope env _ (newList []) false (eval iter env) (some (assign (.Name y py) env))) _ _ s
  refine wpAny_bind (wpAny_mono (wpAny_compGU (Q := fun _ s' => Q .next s') rfl hs hclos hkind hn' hnames (hit _ ?_)) (fun _ s' hq => wpAny_pure (wpAny_pure hq)) fun _ _ e => e)
  have hL := hl _ _ _ [] S
  refine wpAny_pyIter_list hL ?_
  have hne : l ≠ s.heap.objs.size := by obtain ⟨o, ho, _⟩ := hL; exact Nat.ne_of_lt (Heap.lt_size ho)
  have S1 := S.push { cls := .type "list_iterator", data := .fields #[.ref l, .int 0 0] }
  generalize hI : s.heap.objs.size = I at *
  generalize hoI : ({ cls := .type "list_iterator", data := .fields #[.ref l, .int 0 0] } : Obj) = oI at *
  generalize hH : s.heap.push oI = H at *
  have hlH : H.IsList l items.toArray := by rw [← hH]; exact hL.at fun o e => Heap.get?_push_of_some _ e
  have W := Walks.list (prog := prog) (w := w) hh I l hne items.toArray
  refine newList_FS (s := { s with heap := H }) S1 (fun S2 => ?_) (by rw [sizeLine_eq]; simp)
  refine wpAny_newFunctionEnv hnc (fun x hx => by cases hx) (fun h3 hns hsb => ?_) hkind
  dsimp only at hns hsb ⊢
  have kp : ∀ b o, (H.push (lst [] 0)).get? b = some o → h3.get? b = some o := fun b o e => hsb.extBut b o (Nat.ne_of_lt (Heap.lt_size e)) (Heap.get?_push_of_some _ e)
  have S3 := S2.keepAll kp
  have hlt : ∀ p ∈ (H.objs.size, lst [] 0) :: (I, oI) :: N, p.1 ≠ (H.push (lst [] 0)).objs.size := fun p hp => Nat.ne_of_lt (Heap.lt_size (S2.news p hp).1)
  obtain ⟨oL, hnoL, hnsL, S4⟩ := S3.inner hns (Nat.ne_of_gt S2.lt) S2.ext.size hlt
  have hm0 : (fun x => List.lookup x ([] : List (Str × Value)).reverse) = amap [x] [none] := by
    funext z; simp [amap]
  rw [hm0] at S4
  have S5 : FS ts g (H.push (lst [] 0)).objs.size (amap [x] [none]) ([] ++ (H.objs.size, lst [] 0) :: (I, oI) :: ((env.locals, oL) :: N)) h3 := S4.perm (by
    refine (List.Perm.swap _ _ _).trans (List.Perm.cons _ (List.Perm.swap _ _ _)))
  have hI3 : h3.get? I = some oI := (S3.news (I, oI) (.tail _ (.head _))).1
  have hst3 : h3.IsListIter I l 0 ∧ h3.IsList l items.toArray := ⟨⟨_, hI3, (by subst hoI; rfl), (by subst hoI; rfl)⟩, hlH.at fun o e => kp _ _ (Heap.get?_push_of_some _ e)⟩
  have ec : EnvOk { (newEnv scope (H.push (lst [] 0)).objs.size env.globals clos env.qual none .none (some env) builtinsNs) with scope := { scope with names := names' } } names' clos qual code := ⟨hkind, rfl, rfl, e.globals, e.builtins, e.qual, e.code⟩
  have hloop := comp_walks (s := { s with heap := h3, toks := s.toks + 0 }) (R := fun r s' => match r with
          | .ok _ => wpAny (model prog w) A (assign (.Name y py) env (.ref H.objs.size)) (fun _ s'' => ∃ m, s''.heap.Ns (H.push (lst [] 0)).objs.size m ∧ ∀ h', Heap.SameBut (H.push (lst [] 0)).objs.size s''.heap h' → Q .next { s'' with heap := h' }) E s'
          | .error x => ∃ m, s'.heap.Ns (H.push (lst [] 0)).objs.size m ∧ ∀ h', Heap.SameBut (H.push (lst [] 0)).objs.size s'.heap h' → wpAny (model prog w) A (passOn "comprehension.variables-let-go" x { (newEnv scope (H.push (lst [] 0)).objs.size env.globals clos env.qual none .none (some env) builtinsNs) with scope := { scope with names := names' } }) (fun (_ : Value) s' => Q .next s') E { s' with heap := h' })
    (elt := elt) (iter := iter) (px := px) (pos := pos) (ifs := ifs) (scope := scope) (cenv := { (newEnv scope (H.push (lst [] 0)).objs.size env.globals clos env.qual none .none (some env) builtinsNs) with scope := { scope with names := names' } })
    W (fun i h e => let ⟨o, ho, hc, _⟩ := e.1; ⟨o, ho, noCode_cls hc⟩) (fun o i h h' m m' N1 N2 F1 F2 st => ?_) ec hx S5 hst3 J h0 hJ
    (fun i v ys N₁ nD pI h tk E' hi hP hJi S' => ?_) (fun ys N₁ nD v h tk hJn S' => ?_)
  · exact codeAny_compStart_list hloop (W.self 0 _ _ _ hst3 hloop)
  · refine ⟨?_, hl _ _ _ (N2 ++ (I, o) :: [(env.locals, oL)]) (by simpa using F2)⟩
    have e1 := (F1.news (I, o) (by simp)).1
    have e2 := (F2.news (I, o) (by simp)).1
    obtain ⟨o', ho', r⟩ := st.1
    exact ⟨o', e2.trans (e1.symm.trans ho'), r⟩
  · exact step _ ec i v ys N₁ [(H.objs.size, lst ys nD), pI, (env.locals, oL)] h tk E' (by simpa using hP) hJi S'
  · dsimp only
    have S6 : FS ts g (H.push (lst [] 0)).objs.size (amap [x] [v]) ((N₁ ++ [(H.objs.size, lst ys nD)]) ++ (env.locals, oL) :: N) h := by rw [List.append_assoc]; exact S'
    obtain ⟨oL', hno', hnsL', S7⟩ := S6.leave2 hnoL hnsL
    refine wpAny_assign_Name (eSt e S7 hy hiy hly hlen fun h8 S8 => ?_)
    refine ⟨_, hnsL' _ (S8.news _ (.head _)).1, fun h' hsb' => ?_⟩
    have S9 := FS.but (N₁ := []) S8 hno' (h' := h') fun b ob hb e => hsb'.extBut b ob hb e
    refine done _ ys nD h' _ (by simpa using hJn) (S9.sub ?_)
    simp
end
end Mine
namespace Mine
set_option maxHeartbeats 0 in
open_top hd2 for PySem.Challenge.rw_mj0092_02
end Mine
namespace Mine
noncomputable abbrev KK := hd2.heap_39
noncomputable abbrev PP := PySem.Challenge.rw_mj0092_02.row.prog
end Mine
namespace Mine
local macro_rules | `(tactic| walk_at "n") => `(tactic| (refine' eLd ?e ?S ?hl ?hv ?_; (case e => assumption); (case S => assumption); (case hl => rfl); (case hv => rfl)))
local macro_rules | `(tactic| walk_at "s0") => `(tactic| (refine' eSt (i := 0) ?e ?S ?hl ?hi ?hlt ?hlen ?_; (case e => assumption); (case S => assumption); (case hl => rfl); (case hi => rfl); (case hlt => decide); (case hlen => rfl)))
local macro_rules | `(tactic| walk_at "s1") => `(tactic| (refine' eSt (i := 1) ?e ?S ?hl ?hi ?hlt ?hlen ?_; (case e => assumption); (case S => assumption); (case hl => rfl); (case hi => rfl); (case hlt => decide); (case hlen => rfl)))
local macro_rules | `(tactic| walk_at "s2") => `(tactic| (refine' eSt (i := 2) ?e ?S ?hl ?hi ?hlt ?hlen ?_; (case e => assumption); (case S => assumption); (case hl => rfl); (case hi => rfl); (case hlt => decide); (case hlen => rfl)))
local macro_rules | `(tactic| walk_at "s3") => `(tactic| (refine' eSt (i := 3) ?e ?S ?hl ?hi ?hlt ?hlen ?_; (case e => assumption); (case S => assumption); (case hl => rfl); (case hi => rfl); (case hlt => decide); (case hlen => rfl)))
local macro_rules | `(tactic| walk_at "s4") => `(tactic| (refine' eSt (i := 4) ?e ?S ?hl ?hi ?hlt ?hlen ?_; (case e => assumption); (case S => assumption); (case hl => rfl); (case hi => rfl); (case hlt => decide); (case hlen => rfl)))
local macro_rules | `(tactic| walk_at "s5") => `(tactic| (refine' eSt (i := 5) ?e ?S ?hl ?hi ?hlt ?hlen ?_; (case e => assumption); (case S => assumption); (case hl => rfl); (case hi => rfl); (case hlt => decide); (case hlen => rfl)))
local macro_rules | `(tactic| walk_at "s6") => `(tactic| (refine' eSt (i := 6) ?e ?S ?hl ?hi ?hlt ?hlen ?_; (case e => assumption); (case S => assumption); (case hl => rfl); (case hi => rfl); (case hlt => decide); (case hlen => rfl)))
local macro_rules | `(tactic| walk_at "s7") => `(tactic| (refine' eSt (i := 7) ?e ?S ?hl ?hi ?hlt ?hlen ?_; (case e => assumption); (case S => assumption); (case hl => rfl); (case hi => rfl); (case hlt => decide); (case hlen => rfl)))
local macro_rules | `(tactic| walk_at "s8") => `(tactic| (refine' eSt (i := 8) ?e ?S ?hl ?hi ?hlt ?hlen ?_; (case e => assumption); (case S => assumption); (case hl => rfl); (case hi => rfl); (case hlt => decide); (case hlen => rfl)))
local macro_rules | `(tactic| walk_at "s9") => `(tactic| (refine' eSt (i := 9) ?e ?S ?hl ?hi ?hlt ?hlen ?_; (case e => assumption); (case S => assumption); (case hl => rfl); (case hi => rfl); (case hlt => decide); (case hlen => rfl)))
local macro_rules | `(tactic| walk_at "s10") => `(tactic| (refine' eSt (i := 10) ?e ?S ?hl ?hi ?hlt ?hlen ?_; (case e => assumption); (case S => assumption); (case hl => rfl); (case hi => rfl); (case hlt => decide); (case hlen => rfl)))
local macro_rules | `(tactic| walk_at "s11") => `(tactic| (refine' eSt (i := 11) ?e ?S ?hl ?hi ?hlt ?hlen ?_; (case e => assumption); (case S => assumption); (case hl => rfl); (case hi => rfl); (case hlt => decide); (case hlen => rfl)))
local macro_rules | `(tactic| walk_at "s12") => `(tactic| (refine' eSt (i := 12) ?e ?S ?hl ?hi ?hlt ?hlen ?_; (case e => assumption); (case S => assumption); (case hl => rfl); (case hi => rfl); (case hlt => decide); (case hlen => rfl)))
local macro_rules | `(tactic| walk_at "s13") => `(tactic| (refine' eSt (i := 13) ?e ?S ?hl ?hi ?hlt ?hlen ?_; (case e => assumption); (case S => assumption); (case hl => rfl); (case hi => rfl); (case hlt => decide); (case hlen => rfl)))
local macro_rules | `(tactic| walk_at "s14") => `(tactic| (refine' eSt (i := 14) ?e ?S ?hl ?hi ?hlt ?hlen ?_; (case e => assumption); (case S => assumption); (case hl => rfl); (case hi => rfl); (case hlt => decide); (case hlen => rfl)))
local macro_rules | `(tactic| walk_at "s15") => `(tactic| (refine' eSt (i := 15) ?e ?S ?hl ?hi ?hlt ?hlen ?_; (case e => assumption); (case S => assumption); (case hl => rfl); (case hi => rfl); (case hlt => decide); (case hlen => rfl)))
local macro_rules | `(tactic| walk_at "s16") => `(tactic| (refine' eSt (i := 16) ?e ?S ?hl ?hi ?hlt ?hlen ?_; (case e => assumption); (case S => assumption); (case hl => rfl); (case hi => rfl); (case hlt => decide); (case hlen => rfl)))
local macro_rules | `(tactic| walk_at "s17") => `(tactic| (refine' eSt (i := 17) ?e ?S ?hl ?hi ?hlt ?hlen ?_; (case e => assumption); (case S => assumption); (case hl => rfl); (case hi => rfl); (case hlt => decide); (case hlen => rfl)))
local macro_rules | `(tactic| walk_at "s18") => `(tactic| (refine' eSt (i := 18) ?e ?S ?hl ?hi ?hlt ?hlen ?_; (case e => assumption); (case S => assumption); (case hl => rfl); (case hi => rfl); (case hlt => decide); (case hlen => rfl)))
local macro_rules | `(tactic| walk_at "s19") => `(tactic| (refine' eSt (i := 19) ?e ?S ?hl ?hi ?hlt ?hlen ?_; (case e => assumption); (case S => assumption); (case hl => rfl); (case hi => rfl); (case hlt => decide); (case hlen => rfl)))
local macro_rules | `(tactic| walk_at "blen") => `(tactic| (refine' Call_ (eBuiltin ?e (FS.bg ?S ?B) ?G ?hl (Gd.len0 ?G) (Gd.len1 ?G) (callWith_method1 (args_cons ?_))); (case e => assumption); (case S => assumption); (case B => assumption); (case G => assumption); (case hl => rfl)))

section
variable {w : World} {A : Around} {s : Shared} {gh : Heap} {ts : List TabI} {mg mb : Str → Option Value}

theorem em_call {R : Result → Shared → Prop} {want got : Str} {t u tM : Tok} {k : Nat} (X : (KK w.params).In gh) (G : Gd gh mg mb) (B : Bg gh ts s.heap) (hA : AOk A (k + 1))
    (hM : mg "ELLIPSIS_MARKER" = some (.str dots tM)) (hw : want.length ≤ 1000) (hg : got.length ≤ 1000)
    (h : ∀ h' tk, Ext ts s.heap h' → R (.ok (.ret (.bool (emB want got)))) { s with heap := h', toks := tk }) :
    codeAny (model PP w) A (.call (.ref 28) ⟨[.str want t, .str got u], []⟩) R s := by
  have ho := X 28 _ rfl
  have ho' := B.st _ _ ho
  refine enter (binds := [("want", .str want t), ("got", .str got u)]) (ks := ["ws", "startpos", "endpos", "w"]) B G hA ho' rfl ((codeRec_of X (q := "_ellipsis_match") rfl).keeps B.st) rfl (BindsTo.of_eq rfl) rfl rfl rfl rfl ?_
  clear ho ho'
  intro env A' h₁ E' e hA' S
  dsimp only [List.reverse, List.reverseAux, List.map, List.append, List.cons_append, List.nil_append, List.length] at e S ⊢
  refine wpAny_execs_cons (wpAny_If (wpAny_isTrue_Compare1 ?_))
  refine eGlob e (S.bg B) G rfl (hM) ?_
  refine eLd e S rfl rfl ?_
  refine PyProof.Rows.notIn_str (wpAny_truthy_bool ?_)
  by_cases hoc : (Builtin.Str.occurrences want dots 0 want.length 1).isEmpty = true
  · rw [hoc]
    simp only [Bool.not_true, Bool.not_false, if_true]
    refine wpAny_execs_cons (wpAny_Return_some (wpAny_Compare1 ?_))
    walk_at "n"
    walk_at "n"
    refine PyProof.Rows.eq_str ?_
    have hq : emB want got = (want == got) := by unfold emB; rw [if_pos hoc]
    rw [hq] at h
    exact h _ _ S.ext
  rw [Bool.not_eq_true] at hoc
  rw [hoc]
  simp only [Bool.not_true, Bool.not_false, Bool.false_eq_true, if_false]
  refine wpAny_execs_nil ?_
  dsimp only
  refine wpAny_execs_cons (wpAny_Assign_Name (MethodCall_ ?_))
  walk_at "n"
  refine GM.split (callWith_method1 (args_cons ?_))
  refine eGlob e (S.bg B) G rfl hM ?_
  refine args_nil ?_
  refine split_new (by decide) (by rw [sizeLine_eq]; omega) fun l k1 hl => ?_
  have S := S.push (lst (strValues l) 0)
  walk_at "s2"
  intro h₂ S
  dsimp only [List.set] at S ⊢
  have hlm : l.length = (Txt.split want dots).length := by rw [← hl, List.length_map]
  have hsb := split_bounds want dots (by decide)
  have hlen2 : 2 ≤ l.length := by rw [hlm]; exact split_two want dots (by decide +kernel) hoc
  have hlen3 : l.length ≤ 1001 := by rw [hlm]; have := hsb.1; omega
  have hlp : ∀ p ∈ l, p.1.length ≤ 1000 := fun p hp => by
    have := hsb.2 p.1 (hl ▸ List.mem_map_of_mem hp)
    omega
  refine wpAny_execs_cons (wpAny_Assert_holds (wpAny_isTrue_Compare1 ?_))
  refine Call_ ?_
  refine eBuiltin e (S.bg B) G rfl G.len0 G.len1 ?_
  refine callWith_method1 (args_cons ?_)
  walk_at "n"
  refine args_nil ?_
  refine len_list (isList_lst (S.get (.head _))) (by simp [strValues]; omega) ?_
  refine wpAny_Constant_int ?_
  refine ge_int (wpAny_truthy_bool ⟨by simp [strValues]; omega, ?_⟩)
  dsimp only
  refine wpAny_execs_cons ?_
  refine Assign_Tuple_swapped (names := ["startpos", "endpos"]) (Tuple_ (wpAny_items_cons ?_)) rfl (swapped2 e rfl rfl rfl rfl rfl rfl rfl)
  refine wpAny_Constant_int ?_
  refine wpAny_items_cons (Call_ ?_)
  refine eBuiltin e (S.bg B) G rfl G.len0 G.len1 ?_
  refine callWith_method1 (args_cons ?_)
  walk_at "n"
  refine args_nil ?_
  refine PyProof.Rows.len_str (by omega) ?_
  refine wpAny_items_nil ?_
  refine newTuple_FS S (fun S => ?_)
  refine unpack_FS S.tail hA'.handled (isTup_tpl (S.get (.head _))) rfl fun h₃ S => ?_
  refine assign_cons (wpAny_bindName ?_)
  walk_at "s4"
  intro h₄ S
  refine assign_cons (wpAny_bindName ?_)
  walk_at "s3"
  intro h₅ S
  refine wpAny_assignInOrder_none ?_
  dsimp only [List.set] at S ⊢
  obtain ⟨p0, l1, rfl⟩ : ∃ p0 l1, l = p0 :: l1 := by cases l with | nil => simp at hlen2 | cons p q => exact ⟨p, q, rfl⟩
  refine wpAny_execs_cons (wpAny_Assign_Name (Subscript_ ?_))
  walk_at "n"
  refine wpAny_Constant_int ?_
  refine item_listL (x := .str p0.1 p0.2) (isList_lst (S.get (.head _))) (by decide) (by decide) rfl ?_
  walk_at "s5"
  intro h₆ S
  dsimp only [List.set] at S ⊢
  refine cut_next (fun s' => ∃ (l' : List (Str × Tok)) (n : Nat) (sp : Int) (tk1 tk : Tok) (h : Heap), s' = { s with heap := h, toks := tk } ∧ FS ts s.heap env.locals (amap ["got", "want", "ws", "startpos", "endpos", "w"] [some (.str got u), some (.str want t), some (.ref h₁.objs.size), some (.int sp tk1), some (.int got.length (k1 + 1 + 1 + 1 + 1 + 1 + 1)), some (.str p0.1 p0.2)]) [(h₁.objs.size, lst (strValues l') n)] h ∧
    (p0.1.length = 0 ∧ l' = p0 :: l1 ∧ sp = 0 ∨ p0.1.length ≠ 0 ∧ Txt.startswith got p0.1 = true ∧ l' = l1 ∧ sp = p0.1.length)) (fun E' => ?_) ?_
  · have hp0 : p0.1.length ≤ 1000 := hlp p0 (.head _)
    refine wpAny_If (wpAny_isTrue_value ?_)
    walk_at "n"
    refine PySem.P.truthy_str (by omega) ?_
    by_cases hz : p0.1.length = 0
    · rw [if_neg (by simp [hz])]
      exact wpAny_execs_nil ⟨_, _, _, _, _, _, rfl, S, .inl ⟨hz, rfl, rfl⟩⟩
    rw [if_pos (by simpa using hz)]
    refine wpAny_execs_cons (wpAny_If (wpAny_isTrue_value (MethodCall_ ?_)))
    walk_at "n"
    refine GM.startswith (callWith_method1 (args_cons ?_))
    walk_at "n"
    refine args_nil ?_
    refine SC.startswith (wpAny_truthy_bool ?_)
    by_cases hs : Txt.startswith got p0.1 = true
    · rw [if_pos hs]
      refine wpAny_execs_cons (wpAny_Assign_Name (Call_ ?_))
      refine eBuiltin e (S.bg B) G rfl G.len0 G.len1 ?_
      refine callWith_method1 (args_cons ?_)
      walk_at "n"
      refine args_nil ?_
      refine PyProof.Rows.len_str (by omega) ?_
      walk_at "s3"
      intro h₇ S
      dsimp only [List.set] at S ⊢
      refine wpAny_execs_cons (wpAny_Delete (wpAny_deleteEach_cons (wpAny_delete_Subscript ?_)))
      walk_at "n"
      refine wpAny_Constant_int ?_
      refine del_item (pre := []) S (by decide) (k := 0) (by simp [seqIndex?, strValues]) (fun h₈ n' S => ?_) (by simp [strValues]; rw [sizeLine_eq]; simp at hlen3; omega)
      refine wpAny_deleteEach_nil ?_
      refine wpAny_execs_nil ?_
      dsimp only
      refine wpAny_execs_nil ⟨l1, n', _, _, _, _, rfl, S, .inr ⟨hz, hs, rfl, rfl⟩⟩
    · rw [if_neg hs]
      refine wpAny_execs_cons (wpAny_Return_some (wpAny_Constant_bool ?_))
      have hq : emB want got = false := by
        unfold emB
        rw [if_neg (by rw [hoc]; decide), ← hl]
        exact if_pos ⟨hz, by simpa using hs⟩
      rw [hq] at h
      exact h _ _ S.ext
  rintro s' ⟨l', n, sp, tk1, tk, h9, rfl, S, hcase⟩
  have hsp : sp = p0.1.length := by rcases hcase with ⟨a, _, b⟩ | ⟨_, _, _, b⟩ <;> omega
  have hl' : l'.map (·.1) = if ((Txt.split want dots).headD Str.empty).length = 0 then Txt.split want dots else (Txt.split want dots).tail := by
    rw [← hl]
    rcases hcase with ⟨a, b, _⟩ | ⟨a, _, b, _⟩
    · subst b; exact (if_pos a).symm
    · subst b; exact (if_neg a).symm
  have hemB : emB want got = emEnd got (l'.map (·.1)) sp := by
    unfold emB
    rw [if_neg (by rw [hoc]; decide), if_neg, ← hl', ← hl, hsp]
    · rfl
    · rw [← hl]
      rintro ⟨a, b⟩
      rcases hcase with ⟨c, _⟩ | ⟨_, c, _⟩
      · exact a c
      · rw [show ((p0 :: l1).map (·.1)).headD Str.empty = p0.1 from rfl, c] at b; cases b
  have hlen4 : 1 ≤ l'.length ∧ l'.length ≤ 1001 := by
    simp only [List.length_cons] at hlen2 hlen3
    rcases hcase with ⟨_, b, _⟩ | ⟨_, _, b, _⟩ <;> subst b <;> (try simp only [List.length_cons]) <;> omega
  obtain ⟨p1, hp1⟩ : ∃ p1, l'.getLast? = some p1 := by
    cases hq : l'.getLast? with
    | none => rw [List.getLast?_eq_none_iff] at hq; subst hq; simp at hlen4
    | some p => exact ⟨p, rfl⟩
  have hl'sub : ∀ p ∈ l', p ∈ p0 :: l1 := fun p hp => by
    rcases hcase with ⟨_, b, _⟩ | ⟨_, _, b, _⟩
    · subst b; exact hp
    · subst b; exact .tail _ hp
  have hp1l : p1.1.length ≤ 1000 := hlp p1 (hl'sub p1 (List.mem_of_getLast? hp1))
  refine wpAny_execs_cons (wpAny_Assign_Name (Subscript_ ?_))
  walk_at "n"
  refine wpAny_UnaryOp (wpAny_Constant_int (neg_int ?_))
  refine item_last (x := .str p1.1 p1.2) (S.get (.head _)) (by simp [strValues, List.getLast?_map, hp1]) ?_
  walk_at "s5"
  intro h₆ S
  dsimp only [List.set] at S ⊢
  refine cut_next (fun s' => ∃ (l2 : List (Str × Tok)) (n : Nat) (ep : Int) (tk2 tk : Tok) (h : Heap), s' = { s with heap := h, toks := tk } ∧ FS ts s.heap env.locals (amap ["got", "want", "ws", "startpos", "endpos", "w"] [some (.str got u), some (.str want t), some (.ref h₁.objs.size), some (.int sp tk1), some (.int ep tk2), some (.str p1.1 p1.2)]) [(h₁.objs.size, lst (strValues l2) n)] h ∧
    (p1.1.length = 0 ∧ l2 = l' ∧ ep = got.length ∨ p1.1.length ≠ 0 ∧ Txt.endswith got p1.1 = true ∧ l2 = l'.dropLast ∧ ep = (got.length : Int) - p1.1.length)) (fun E' => ?_) ?_
  · refine wpAny_If (wpAny_isTrue_value ?_)
    walk_at "n"
    refine PySem.P.truthy_str (by omega) ?_
    by_cases hz : p1.1.length = 0
    · rw [if_neg (by simp [hz])]
      exact wpAny_execs_nil ⟨_, _, _, _, _, _, rfl, S, .inl ⟨hz, rfl, rfl⟩⟩
    rw [if_pos (by simpa using hz)]
    refine wpAny_execs_cons (wpAny_If (wpAny_isTrue_value (MethodCall_ ?_)))
    walk_at "n"
    refine GM.endswith (callWith_method1 (args_cons ?_))
    walk_at "n"
    refine args_nil ?_
    refine SC.endswith (wpAny_truthy_bool ?_)
    by_cases hs : Txt.endswith got p1.1 = true
    · rw [if_pos hs]
      refine wpAny_execs_cons (wpAny_AugAssign_Name ?_)
      refine eLdn e S rfl rfl ?_
      refine Call_ ?_
      refine eBuiltin e (S.bg B) G rfl G.len0 G.len1 ?_
      refine callWith_method1 (args_cons ?_)
      walk_at "n"
      refine args_nil ?_
      refine PyProof.Rows.len_str (by omega) ?_
      refine isub_int ?_
      walk_at "s4"
      intro h₇ S
      dsimp only [List.set] at S ⊢
      refine wpAny_execs_cons (wpAny_Delete (wpAny_deleteEach_cons (wpAny_delete_Subscript ?_)))
      walk_at "n"
      refine wpAny_UnaryOp (wpAny_Constant_int (neg_int ?_))
      refine del_item (pre := []) S (by decide) (k := l'.length - 1) (by simp [seqIndex?, strValues]; omega) (fun h₈ n' S => ?_) (by simp [strValues]; rw [sizeLine_eq]; omega)
      refine wpAny_deleteEach_nil ?_
      refine wpAny_execs_nil ?_
      dsimp only
      have hdl : (strValues l').eraseIdx (l'.length - 1) = strValues l'.dropLast := by
        simp only [strValues]
        rw [List.map_dropLast, ← eraseLast, List.length_map]
      rw [hdl] at S
      refine wpAny_execs_nil ⟨l'.dropLast, n', _, _, _, _, rfl, S, .inr ⟨hz, hs, rfl, rfl⟩⟩
    · rw [if_neg hs]
      refine wpAny_execs_cons (wpAny_Return_some (wpAny_Constant_bool ?_))
      have hq : emB want got = false := by
        rw [hemB]
        unfold emEnd
        have : (l'.map (·.1)).getLastD Str.empty = p1.1 := by rw [List.getLastD_eq_getLast?, List.getLast?_map, hp1]; rfl
        rw [this]
        exact if_pos ⟨hz, by simpa using hs⟩
      rw [hq] at h
      exact h _ _ S.ext
  rintro s' ⟨l2, n2, ep, tk2, tk3, h10, rfl, S, hcase2⟩
  have hep : ep = (got.length : Int) - p1.1.length := by rcases hcase2 with ⟨a, _, b⟩ | ⟨_, _, _, b⟩ <;> omega
  have hem2 : emB want got = if sp > ep then false else emGo got ep (l2.map (·.1)) sp := by
    rw [hemB]
    unfold emEnd
    have : (l'.map (·.1)).getLastD Str.empty = p1.1 := by rw [List.getLastD_eq_getLast?, List.getLast?_map, hp1]; rfl
    rw [this, ← hep, if_neg]
    · rcases hcase2 with ⟨a, b, _⟩ | ⟨a, _, b, _⟩
      · subst b; rw [if_pos a]
      · subst b; rw [if_neg a, List.map_dropLast]
    · rintro ⟨a, b⟩
      rcases hcase2 with ⟨c, _⟩ | ⟨_, c, _⟩
      · exact a c
      · rw [c] at b; cases b
  refine wpAny_execs_cons (wpAny_If (wpAny_isTrue_Compare1 ?_))
  walk_at "n"
  walk_at "n"
  refine PyProof.Rows.gt_int (wpAny_truthy_bool ?_)
  by_cases hgt : ep < sp
  · rw [if_pos (by simpa using hgt)]
    refine wpAny_execs_cons (wpAny_Return_some (wpAny_Constant_bool ?_))
    rw [hem2, if_pos hgt] at h
    exact h _ _ S.ext
  rw [if_neg (by simpa using hgt)]
  refine wpAny_execs_nil ?_
  dsimp only
  rw [if_neg (by simpa using hgt)] at hem2
  refine wpAny_execs_cons (wpAny_For ?_)
  walk_at "n"
  have hl2 : ∀ x ∈ l2, x.1.length ≤ 1000 := fun p hp => hlp p (hl'sub p (by
    rcases hcase2 with ⟨_, b, _⟩ | ⟨_, _, b, _⟩
    · subst b; exact hp
    · subst b; exact List.dropLast_subset _ hp))
  refine list_for (x := "w") (ix := 5) (N := []) (K₀ := [(h₁.objs.size, lst (strValues l2) n2)]) (items := (strValues l2).toArray) hA'.handled
    (fun h m N' S => isList_lst (S.get (List.mem_append_right _ (.head _)))) e.kind (e.kindOf rfl) rfl (by decide) S
    (fun i vs N => N = [] ∧ ∃ sp ty wv, vs = [some (.str got u), some (.str want t), some (.ref h₁.objs.size), some (.int sp ty), some (.int ep tk2), wv] ∧ emB want got = emGo got ep ((l2.map (·.1)).drop i) sp)
    ?_ ⟨rfl, sp, tk1, _, rfl, hem2⟩ ?_ ?_
  · rintro i vs N ⟨_, sp, ty, wv, rfl, _⟩; rfl
  · rintro i v vs N p hx tk E' hi hv ⟨rfl, sp, ty, wv, rfl, hJ⟩ S
    dsimp only [List.set] at S
    have hi' : i < l2.length := by simpa [strValues] using hi
    obtain rfl : v = .str l2[i].1 l2[i].2 := by
      have := hv
      simp [strValues, hi'] at this
      exact this.symm
    have hdrop : (l2.map (·.1)).drop i = l2[i].1 :: (l2.map (·.1)).drop (i + 1) := by
      rw [List.drop_eq_getElem_cons (by simpa using hi')]; simp
    rw [hdrop] at hJ
    have hwl := hl2 _ (List.getElem_mem hi')
    generalize l2[i] = wi at *
    refine wpAny_execs_cons (wpAny_Assign_Name (MethodCall_ ?_))
    walk_at "n"
    refine GM.find (callWith_method1 (args_cons ?_))
    walk_at "n"
    refine args_cons ?_
    walk_at "n"
    refine args_cons ?_
    walk_at "n"
    refine args_nil ?_
    refine find4_call ?_
    walk_at "s3"
    intro hx2 S
    dsimp only [List.set] at S ⊢
    refine wpAny_execs_cons (wpAny_If (wpAny_isTrue_Compare1 ?_))
    walk_at "n"
    refine wpAny_Constant_int ?_
    refine PyProof.Rows.lt_int (wpAny_truthy_bool ?_)
    by_cases hneg : find4 got wi.1 sp ep < 0
    · rw [if_pos (by simpa using hneg)]
      refine wpAny_execs_cons (wpAny_Return_some (wpAny_Constant_bool ?_))
      rw [hJ, emGo, if_pos hneg] at h
      exact h _ _ S.ext
    rw [if_neg (by simpa using hneg)]
    refine wpAny_execs_nil ?_
    dsimp only
    refine wpAny_execs_cons (wpAny_AugAssign_Name ?_)
    refine eLdn e S rfl rfl ?_
    refine Call_ ?_
    refine eBuiltin e (S.bg B) G rfl G.len0 G.len1 ?_
    refine callWith_method1 (args_cons ?_)
    walk_at "n"
    refine args_nil ?_
    refine PyProof.Rows.len_str (by omega) ?_
    refine PyProof.Rows.iadd_int ?_
    walk_at "s3"
    intro hx3 S
    dsimp only [List.set] at S ⊢
    refine wpAny_execs_nil ?_
    refine ⟨_, [], _, _, rfl, S, rfl, _, _, _, rfl, ?_⟩
    rw [hJ, emGo, if_neg hneg]
  · rintro vs N hx tk ⟨rfl, sp, ty, wv, rfl, hJ⟩ S
    dsimp only
    refine wpAny_execs_cons (wpAny_Return_some (wpAny_Constant_bool ?_))
    have hfin : emB want got = true := by
      rw [hJ, List.drop_eq_nil_of_le (by simp [strValues])]; rfl
    rw [hfin] at h
    exact h _ _ S.ext
end
def qLam : Str := "_law_hit" ++ ".<locals>." ++ "<lambda>"
def qSearch : Str := "_law_finder" ++ ".<locals>." ++ "search"
def qFLam : Str := "_law_finder" ++ ".<locals>." ++ "<lambda>"
def T1 : TabI := ⟨34, 30, [(⟨49, 10, 49, 22⟩, qLam), (⟨50, 15, 50, 38⟩, qLam)]⟩
def T2 : TabI := ⟨41, 37, [(⟨54, 4, 58, 19⟩, qSearch), (⟨59, 11, 59, 23⟩, qFLam)]⟩
def TT : List TabI := [T1, T2]
theorem T1_mem : T1 ∈ TT := .head _
theorem T2_mem : T2 ∈ TT := .tail _ (.head _)
theorem T1_only : ∀ t' ∈ TT, t'.P = T1.P → t' = T1 := by
  intro t ht hp
  simp only [TT, List.mem_cons, List.not_mem_nil, or_false] at ht
  rcases ht with rfl | rfl
  · rfl
  · exact absurd hp (by decide)
theorem T2_only : ∀ t' ∈ TT, t'.P = T2.P → t' = T2 := by
  intro t ht hp
  simp only [TT, List.mem_cons, List.not_mem_nil, or_false] at ht
  rcases ht with rfl | rfl
  · exact absurd hp (by decide)
  · rfl

section
variable {w : World} {A : Around} {s : Shared} {gh : Heap} {mg mb : Str → Option Value}

theorem hit_call {R : Result → Shared → Prop} {i j : Int} {t u : Tok} {k : Nat} (X : (KK w.params).In gh) (G : Gd gh mg mb) (B : Bg gh TT s.heap) (hA : AOk A (k + 1)) (hC : CodeHd gh T1.c T1.P)
    (h : ∀ a F h' tk, Ext TT s.heap h' → Led s.heap F h' → IsHit PP w gh TT F a i j → R (.ok (.ret (.ref a))) { s with heap := h', toks := tk }) :
    codeAny (model PP w) A (.call (.ref 35) ⟨[.int i t, .int j u], []⟩) R s := by
  have ho := X 35 _ rfl
  have ho' := B.st _ _ ho
  refine enterC (binds := [("first", .int i t), ("behind", .int j u)]) (ks := ["hit"]) B G hA ho' rfl ((codeRec_of X (q := "_law_hit") rfl).keeps B.st) rfl (BindsTo.of_eq rfl) rfl rfl rfl ?_ ?_ rfl ?_
  · intro n x hx
    simp only [List.mem_cons, List.not_mem_nil, or_false] at hx
    rcases hx with rfl | rfl
    · exact .inr ⟨rfl, rfl⟩
    · exact .inr ⟨rfl, rfl⟩
  · decide +kernel
  clear ho ho'
  intro env A' h₁ tk cells E' e hA' Y S
  obtain ⟨o1, o2, rfl, d1, d2⟩ := CellsAre.two Y
  dsimp only [List.map] at S
  refine wpAny_execs_cons (wpAny_Assign_Name ?_)
  refine eLam (t := T1) (clos := []) e S B G T1_mem T1_only hC ?_ ?_ rfl rfl ?_
  · decide +kernel
  · exact .head _
  intro f1 cv1 ctv1 doc1 h2 tk2 S hc1
  walk_at "s0"
  intro h3 S
  dsimp only [List.set] at S ⊢
  refine wpAny_execs_cons (plainObj_wpAny_Assign_Attribute ?_)
  refine eLam (t := T1) (clos := [("first", env.locals + 1), ("behind", env.locals + 2)]) e S B G T1_mem T1_only hC ?_ ?_ ?_ rfl ?_
  · decide +kernel
  · exact .tail _ (.head _)
  · unfold closureFor cellOf
    rw [e.cells]
    rfl
  intro f2 cv2 ctv2 doc2 h4 tk4 S hc2
  walk_at "n"
  have A1 := S.news (f1, _) (.tail _ (.head _))
  refine fn_setattr A1.1 rfl rfl rfl lk_span (fun h5 tk5 g1 g2 g3 g4 => ?_)
  have S5 := FS.next (N₁ := [(f2, _)]) S (noCode_cls rfl) g1 g4
  refine wpAny_execs_cons (wpAny_Return_some ?_)
  refine eLd e S5 rfl rfl ?_
  have hc5 : CodeC h5 cv2 ("_law_hit" ++ ".<locals>." ++ "<lambda>") := hc2.keeps fun b o e1 e2 _ => g4 b o (fun q => by
    subst q
    rw [A1.1] at e1; cases e1; exact absurd (Value.type.inj e2) (by decide)) e1
  obtain ⟨od, es, ep, hod, hod2⟩ := g2
  obtain ⟨c, oc, vsc, tc, rfl, hoc, hoc2, hoc3, hoc4⟩ := hc5
  have SL := S5.add hod S.ext.size (Nat.ne_of_gt S.lt) (fun p hp => by
    simp only [List.cons_append, List.nil_append, List.mem_cons, List.not_mem_nil, or_false] at hp
    rcases hp with rfl | rfl | rfl | rfl
    · exact Nat.ne_of_lt (Heap.lt_size (S.news (f2, _) (.head _)).1)
    · exact Nat.ne_of_lt (Heap.lt_size A1.1)
    · exact Nat.ne_of_lt (Heap.lt_size (S.news _ (.tail _ (.tail _ (.head _)))).1)
    · exact Nat.ne_of_lt (Heap.lt_size (S.news _ (.tail _ (.tail _ (.tail _ (.head _))))).1))
  have SL2 := SL.addC hoc ⟨hoc2, _, hoc3⟩
  refine h f1 _ h5 _ SL2.ext SL2.led ?_
  refine ⟨_, _, h4.objs.size, od, f2, _, _, .tail _ (.tail _ (.tail _ (.head _))), rfl, rfl, rfl, .tail _ (.head _), fun hh e => ⟨od, es, ep, e, hod2⟩, .tail _ (.tail _ (.head _)), rfl, ?_⟩
  clear h S5 SL SL2 S A1 hod hoc Y
  intro A2 k2 s2 R2 hA2 B2 hN hR
  have Cc := (hN _ (.head _)).1
  have Cf := (hN _ (.tail _ (.tail _ (.head _)))).1
  have C1 := hN _ (.tail _ (.tail _ (.tail _ (.tail _ (.head _)))))
  have C2 := hN _ (.tail _ (.tail _ (.tail _ (.tail _ (.tail _ (.head _))))))
  refine enterE (binds := []) (ks := []) B2 G hA2 Cf rfl ⟨_, _, _, _, rfl, Cc, hoc3, hoc4⟩ rfl (BindsTo.of_eq rfl) rfl rfl rfl rfl ?_
  intro env2 A3 h6 E6 e6 hA3 S6
  refine Tuple_ (wpAny_items_cons (eFree e6 rfl rfl ⟨_, S6.ext.keep _ _ C2.1 C2.2, d2⟩ ?_))
  refine wpAny_items_cons (eFree e6 rfl rfl ⟨_, S6.ext.keep _ _ C1.1 C1.2, d1⟩ ?_)
  refine wpAny_items_nil ?_
  refine newTuple_FS S6 (fun S7 => ?_)
  exact hR _ _ _ _ _ _ S7.ext S7.led (.head _)
end
section
variable {w : World} {A : Around} {s : Shared} {gh : Heap} {mg mb : Str → Option Value}

def FoundIs (w : World) (gh : Heap) (N : List (Addr × Obj)) (fv : Value) (r : Option (Nat × Nat)) : Prop :=
  match r with | none => fv = .none | some m => ∃ a, fv = .ref a ∧ IsHit PP w gh TT N a m.1 m.2
theorem FoundIs.mono {N N' : List (Addr × Obj)} {fv : Value} {r : Option (Nat × Nat)} (h : FoundIs w gh N fv r) (k : N ⊆ N') : FoundIs w gh N' fv r := by
  cases r with
  | none => exact h
  | some m => obtain ⟨a, e, H⟩ := h; exact ⟨a, e, H.mono k⟩

theorem sr_call {R : Result → Shared → Prop} {pa : Addr} {chars : Str} {nxt : Nat → Option (Nat × Nat)} {col : Int} {len : Nat} {t u : Tok} {k : Nat} {D : List (Addr × Obj)} (X : (KK w.params).In gh) (G : Gd gh mg mb) (B : Bg gh TT s.heap) (hA : AOk A (k + 3))
    (H : IsProg PP w gh TT D pa chars nxt) (hD : Firm TT D s.heap) (hb : ∀ st i j, nxt st = some (i, j) → st ≤ i ∧ i ≤ j ∧ j ≤ len) (hlen : len ≤ 1000)
    (h : ∀ v F h' tk, Ext TT s.heap h' → Led s.heap F h' → FoundIs w gh F v (srB nxt col (len + 1)) → R (.ok (.ret v)) { s with heap := h', toks := tk }) :
    codeAny (model PP w) A (.call (.ref 21) ⟨[.ref pa, .str chars t, .int col u], []⟩) R s := by
  have ho := X 21 _ rfl
  have ho' := B.st _ _ ho
  refine enter (binds := [("prog", .ref pa), ("chars", .str chars t), ("col", .int col u)]) (ks := ["m", "found", "i", "j"]) B G hA ho' rfl ((codeRec_of X (q := "search_reverse") rfl).keeps B.st) rfl (BindsTo.of_eq rfl) rfl rfl rfl rfl ?_
  clear ho ho'
  intro env A' h₁ E' e hA' S
  dsimp only [List.reverse, List.reverseAux, List.map, List.append, List.cons_append, List.nil_append, List.length] at e S ⊢
  refine wpAny_execs_cons (wpAny_Assign_Name ?_)
  refine search_call (j := 0) (t := t) (extra := []) hA' (fun Q' hq => ?_) H (hD.ext S.ext) (.inl ⟨rfl, rfl⟩) (by omega) (fun Q' tk0 hq => ?_) (S.bg B) (fun hn h2 tk2 x => ?_) (fun i' j' hn a F h2 tk2 x l Hh => ?_)
  · walk_at "n"; exact hq
  · refine wpAny_items_cons ?_
    refine eLd (s := { s with heap := h₁, toks := tk0 }) e S rfl rfl ?_
    exact args_nil (hq _)
  · have S := S.call x
    walk_at "s3"
    intro h3 S
    dsimp only [List.set] at S ⊢
    refine wpAny_execs_cons (wpAny_If (isTrue_not (wpAny_isTrue_value ?_)))
    walk_at "n"
    refine truthy_none ?_
    simp only [Bool.not_false, if_true]
    refine wpAny_execs_cons (wpAny_Return_some (wpAny_Constant_none ?_))
    refine h _ _ _ _ S.ext S.led ?_
    unfold srB; rw [hn]; rfl
  have S := S.callN x l
  have hH : IsHit PP w gh TT (F ++ []) a i' j' := Hh.mono (by simp)
  have hbd := hb _ _ _ hn
  walk_at "s3"
  intro h3 S
  dsimp only [List.set] at S ⊢
  refine wpAny_execs_cons (wpAny_If (isTrue_not (wpAny_isTrue_value ?_)))
  walk_at "n"
  refine hit_truthy hH S.stands ?_
  simp only [Bool.not_true, Bool.false_eq_true, if_false]
  refine wpAny_execs_nil ?_
  dsimp only
  refine wpAny_execs_cons (wpAny_Assign_Name (wpAny_Constant_none ?_))
  walk_at "s4"
  intro h4 S
  dsimp only [List.set] at S ⊢
  refine wpAny_execs_cons (Assign_Tuple ?_)
  refine span_call (k := k + 1) hA' (fun Q' hq => ?_) hH S.firm (S.bg B) (fun a2 tv1 tv2 F2 h5 tk5 x5 l5 m5 => ?_)
  · walk_at "n"; exact hq
  have S := S.callN x5 l5
  refine asg_pair (ia := 5) (ib := 6) e S hA'.handled (S.stands _ (List.mem_append_left _ m5)) rfl rfl rfl rfl (by decide) (by decide) rfl fun h6 tk6 S => ?_
  dsimp only [List.set] at S ⊢
  refine cut_next (fun s' => ∃ fv N h tk vs, s' = { s with heap := h, toks := tk } ∧ FS TT s.heap env.locals (amap ["col", "chars", "prog", "m", "found", "i", "j"] vs) N h ∧ vs[4]? = some (some fv) ∧ vs.length = 7 ∧ FoundIs w gh N fv (srB nxt col (len + 1))) (fun E1 => ?_) ?_
  · refine while_loop (s := { s with heap := h6, toks := tk6 }) (n₀ := len + 1) (fun n vs N => ∃ am i j ti tj fv found, vs = [some (.int col u), some (.str chars t), some (.ref pa), some (.ref am), some fv, some (.int (i : Nat) ti), some (.int (j : Nat) tj)] ∧ IsHit PP w gh TT N am i j ∧ FoundIs w gh N fv found ∧ i ≤ j ∧ j ≤ len ∧ len + 1 ≤ n + i ∧ srB nxt col (len + 1) = srGo nxt col n found (i, j)) S ?_ ?_
    · refine ⟨a, i', j', tv1, tv2, .none, none, rfl, hH.mono (by simp), rfl, hbd.2.1, hbd.2.2, by omega, ?_⟩
      unfold srB; rw [hn]
    clear S x5 l5 m5 hH hbd hn Hh x l
    rintro n vs N h7 tk7 E7 ⟨am, i, j, ti, tj, fv, found, rfl, Hm, Hf, hij, hjl, hfu, hgo⟩ S
    refine isTrue_and (wpAny_isTrue_Compare1 ?_)
    walk_at "n"
    walk_at "n"
    refine PyProof.Rows.lt_int (wpAny_truthy_bool ?_)
    by_cases c1 : (i : Int) < col
    · rw [if_pos (by simpa using c1)]
      refine isTrue_and (wpAny_isTrue_Compare1 ?_)
      walk_at "n"
      walk_at "n"
      refine PyProof.Rows.le_int (wpAny_truthy_bool ?_)
      by_cases c2 : (j : Int) ≤ col
      · rw [if_pos (by simpa using c2)]
        refine isTrue_and_nil ?_
        simp only [if_true]
        obtain ⟨n', rfl⟩ : ∃ n', n = n' + 1 := ⟨n - 1, by omega⟩
        rw [srGo, if_pos ⟨c1, c2⟩] at hgo
        refine wpAny_execs_cons (wpAny_Assign_Name ?_)
        walk_at "n"
        walk_at "s4"
        intro h8 S
        dsimp only [List.set] at S ⊢
        refine cut_next (fun s' => ∃ h tk tj', s' = { s with heap := h, toks := tk } ∧ FS TT s.heap env.locals (amap ["col", "chars", "prog", "m", "found", "i", "j"] [some (.int col u), some (.str chars t), some (.ref pa), some (.ref am), some (.ref am), some (.int (i : Nat) ti), some (.int ((if i = j then j + 1 else j : Nat) : Int) tj')]) N h) (fun E8 => ?_) ?_
        · refine wpAny_If (wpAny_isTrue_Compare1 ?_)
          walk_at "n"
          walk_at "n"
          refine PyProof.Rows.eq_int (wpAny_truthy_bool ?_)
          by_cases c3 : i = j
          · rw [if_pos (by simp [c3])]
            refine wpAny_execs_cons (wpAny_Assign_Name (wpAny_BinOp ?_))
            walk_at "n"
            refine wpAny_Constant_int ?_
            refine PyProof.Rows.add_int ?_
            walk_at "s6"
            intro h9 S
            dsimp only [List.set] at S ⊢
            refine wpAny_execs_nil ?_
            simp only [if_pos c3]
            exact ⟨_, _, _, rfl, S⟩
          · rw [if_neg (by simp; omega)]
            refine wpAny_execs_nil ?_
            simp only [if_neg c3]
            exact ⟨_, _, _, rfl, S⟩
        rintro s' ⟨h9, tk9, tj', rfl, S⟩
        generalize hjj : (if i = j then j + 1 else j) = jj at *
        have hjj1 : i + 1 ≤ jj ∧ jj ≤ len + 1 := by rw [← hjj]; split <;> omega
        refine wpAny_execs_cons (wpAny_Assign_Name ?_)
        refine search_call (j := jj) (t := t) (extra := [.int (jj : Int) tj']) hA' (fun Q' hq => ?_) H (hD.ext S.ext) (.inr ⟨_, rfl⟩) (by omega) (fun Q' tk0 hq => ?_) (S.bg B) (fun hn h2 tk2 x => ?_) (fun i2 j2 hn a2 F2 h2 tk2 x l Hh => ?_)
        · walk_at "n"; exact hq
        · refine wpAny_items_cons ?_
          refine eLd (s := { s with heap := h9, toks := tk0 }) e S rfl rfl ?_
          refine wpAny_items_cons ?_
          refine eLd (s := { s with heap := h9, toks := tk0 }) e S rfl rfl ?_
          exact args_nil (hq _)
        · have S := S.call x
          walk_at "s3"
          intro h3 S
          dsimp only [List.set] at S ⊢
          refine wpAny_execs_cons (wpAny_If (isTrue_not (wpAny_isTrue_value ?_)))
          walk_at "n"
          refine truthy_none ?_
          simp only [Bool.not_false, if_true]
          refine wpAny_execs_cons (wpAny_Break ?_)
          refine ⟨.ref am, N, _, _, _, rfl, S, rfl, rfl, ?_⟩
          rw [hgo, hn]
          exact ⟨am, rfl, Hm⟩
        have S := S.callN x l
        have hH2 : IsHit PP w gh TT (F2 ++ N) a2 i2 j2 := Hh.mono (by simp)
        have hbd := hb _ _ _ hn
        walk_at "s3"
        intro h3 S
        dsimp only [List.set] at S ⊢
        refine wpAny_execs_cons (wpAny_If (isTrue_not (wpAny_isTrue_value ?_)))
        walk_at "n"
        refine hit_truthy hH2 S.stands ?_
        simp only [Bool.not_true, Bool.false_eq_true, if_false]
        refine wpAny_execs_nil ?_
        dsimp only
        refine wpAny_execs_cons (Assign_Tuple ?_)
        refine span_call (k := k + 1) hA' (fun Q' hq => ?_) hH2 S.firm (S.bg B) (fun a3 tv1 tv2 F3 h5 tk5 x5 l5 m5 => ?_)
        · walk_at "n"; exact hq
        have S := S.callN x5 l5
        refine asg_pair (ia := 5) (ib := 6) e S hA'.handled (S.stands _ (List.mem_append_left _ m5)) rfl rfl rfl rfl (by decide) (by decide) rfl fun h6 tk6 S => ?_
        dsimp only [List.set] at S ⊢
        refine wpAny_execs_nil ?_
        refine ⟨n', _, _, _, _, rfl, Nat.lt_succ_self _, S, a2, i2, j2, tv1, tv2, .ref am, some (i, j), rfl, hH2.mono (by simp), ⟨am, rfl, Hm.mono ?_⟩, hbd.2.1, hbd.2.2, by omega, ?_⟩
        · intro p hp; simp [hp]
        · rw [hgo, hn]
      · rw [if_neg (by simpa using c2)]
        simp only [Bool.false_eq_true, if_false]
        refine ⟨fv, N, _, _, _, rfl, S, rfl, rfl, ?_⟩
        rw [hgo]
        cases n with
        | zero => exact Hf
        | succ n => rw [srGo, if_neg (fun q => c2 q.2)]; exact Hf
    · rw [if_neg (by simpa using c1)]
      simp only [Bool.false_eq_true, if_false]
      refine ⟨fv, N, _, _, _, rfl, S, rfl, rfl, ?_⟩
      rw [hgo]
      cases n with
      | zero => exact Hf
      | succ n => rw [srGo, if_neg (fun q => c1 q.1)]; exact Hf
  · rintro s' ⟨fv, N, h7, tk7, vs, rfl, S, hfv, hvl, Hf⟩
    obtain ⟨v0, v1, v2, v3, v4, v5, v6, rfl⟩ : ∃ v0 v1 v2 v3 v4 v5 v6, vs = [v0, v1, v2, v3, v4, v5, v6] := by
      match vs, hvl with
      | [v0, v1, v2, v3, v4, v5, v6], _ => exact ⟨v0, v1, v2, v3, v4, v5, v6, rfl⟩
    obtain rfl : v4 = some fv := by simpa using hfv
    refine wpAny_execs_cons (wpAny_Return_some ?_)
    walk_at "n"
    exact h _ _ _ _ S.ext S.led Hf
end
section
variable {w : World} {A : Around} {s : Shared} {gh : Heap} {mg mb : Str → Option Value}

theorem fi_call {R : Result → Shared → Prop} {ta : Addr} {tv : List Value} {nt : Nat} {T : List (List Nat)} {pk : Int} {tp : Tok} {k : Nat} {D : List (Addr × Obj)} (X : (KK w.params).In gh) (G : Gd gh mg mb) (B : Bg gh TT s.heap) (hA : AOk A (k + 1)) (hC1 : CodeHd gh T1.c T1.P) (hC2 : CodeHd gh T2.c T2.P)
    (hHit : mg "_law_hit" = some (.ref 35)) (hta : (ta, lst tv nt) ∈ D) (hT : TabIs D tv T) (hTl : T.length ≤ 100) (hTb : ∀ l ∈ T, l.length ≤ 200) (hpk : pk = 0 ∨ pk = -1)
    (h : ∀ a F h' tk, Ext TT s.heap h' → Led s.heap F h' → (∀ chars : Str, chars.length + 1 = T.length → IsProg PP w gh TT (F ++ D) a chars (nxtT T pk chars.length)) → R (.ok (.ret (.ref a))) { s with heap := h', toks := tk }) :
    codeAny (model PP w) A (.call (.ref 42) ⟨[.ref ta, .int pk tp], []⟩) R s := by
  have ho := X 42 _ rfl
  have ho' := B.st _ _ ho
  refine enterC (binds := [("table", .ref ta), ("pick", .int pk tp)]) (ks := ["search", "prog"]) B G hA ho' rfl ((codeRec_of X (q := "_law_finder") rfl).keeps B.st) rfl (BindsTo.of_eq rfl) rfl rfl rfl ?_ ?_ rfl ?_
  · intro n x hx
    simp only [List.mem_cons, List.not_mem_nil, or_false] at hx
    rcases hx with rfl | rfl
    · exact .inr ⟨rfl, rfl⟩
    · exact .inr ⟨rfl, rfl⟩
  · decide +kernel
  clear ho ho'
  intro env A' h₁ tk cells E' e hA' Y S
  obtain ⟨o1, o2, rfl, d1, d2⟩ := CellsAre.two Y
  dsimp only [List.map] at S
  refine wpAny_execs_cons ?_
  refine eDef1 (t := T2) (clos := [("table", env.locals + 1), ("pick", env.locals + 2)]) (qual := qSearch) e S B G T2_mem T2_only hC2 rfl rfl ?_ ?_ ?_ rfl rfl rfl ?_
  · decide +kernel
  · exact .head _
  · unfold closureFor cellOf
    rw [e.cells]
    rfl
  intro f1 TA td cv1 ctv1 doc1 h2 tk2 S hc1
  have K1 := hc1
  obtain ⟨c1, oc1, vs1, tq1, rfl, hoc1, hoc2, hoc3, hoc4⟩ := K1
  have S := S.addC hoc1 ⟨hoc2, _, hoc3⟩
  walk_at "s0"
  intro h3 S
  dsimp only [List.set] at S ⊢
  refine wpAny_execs_cons (wpAny_Assign_Name ?_)
  refine eLam (t := T2) (clos := []) e S B G T2_mem T2_only hC2 ?_ ?_ rfl rfl ?_
  · decide +kernel
  · exact .tail _ (.head _)
  intro f2 cv2 ctv2 doc2 h4 tk4 S hc2
  walk_at "s1"
  intro h5 S
  dsimp only [List.set] at S ⊢
  refine wpAny_execs_cons (plainObj_wpAny_Assign_Attribute ?_)
  walk_at "n"
  walk_at "n"
  have A1 := S.news (f2, _) (.head _)
  refine fn_setattr A1.1 rfl rfl rfl lk_search (fun h6 tk6 g1 g2 g3 g4 => ?_)
  have S5 := FS.next (N₁ := []) S (noCode_cls rfl) g1 g4
  refine wpAny_execs_cons (wpAny_Return_some ?_)
  refine eLd e S5 rfl rfl ?_
  obtain ⟨od, es, ep, hod, hod2⟩ := g2
  have SL := S5.add hod S.ext.size (Nat.ne_of_gt S.lt) (fun p hp => by
    simp only [List.cons_append, List.nil_append, List.mem_cons, List.not_mem_nil, or_false] at hp
    rcases hp with rfl | rfl | rfl | rfl | rfl | rfl
    · exact Nat.ne_of_lt (Heap.lt_size A1.1)
    · exact Nat.ne_of_lt (Heap.lt_size (S.news _ (.tail _ (.head _))).1)
    · exact Nat.ne_of_lt (Heap.lt_size (S.news _ (.tail _ (.tail _ (.head _)))).1)
    · exact Nat.ne_of_lt (Heap.lt_size (S.news _ (.tail _ (.tail _ (.tail _ (.head _))))).1)
    · exact Nat.ne_of_lt (Heap.lt_size (S.news _ (.tail _ (.tail _ (.tail _ (.tail _ (.head _)))))).1)
    · exact Nat.ne_of_lt (Heap.lt_size (S.news _ (.tail _ (.tail _ (.tail _ (.tail _ (.tail _ (.head _))))))).1))
  refine h f2 _ h6 _ SL.ext SL.led ?_
  intro chars hchars
  refine ⟨_, _, h5.objs.size, od, f1, _, _, .tail _ (.head _), rfl, rfl, rfl, .head _, fun hh e => ⟨od, es, ep, e, hod2⟩, .tail _ (.tail _ (.tail _ (.head _))), rfl, ?_⟩
  clear h S5 SL S A1 hod hoc1 Y
  intro A2 k2 s2 R2 j tc extra hA2 B2 hN hex hj r1 r2
  have Cc := (hN _ (.tail _ (.tail _ (.head _)))).1
  have Cf := (hN _ (.tail _ (.tail _ (.tail _ (.head _))))).1
  have CT := (hN _ (.tail _ (.tail _ (.tail _ (.tail _ (.head _)))))).1
  have C1 := hN _ (.tail _ (.tail _ (.tail _ (.tail _ (.tail _ (.head _))))))
  have C2 := hN _ (.tail _ (.tail _ (.tail _ (.tail _ (.tail _ (.tail _ (.head _)))))))
  have hND : Firm TT D s2.heap := hN.mono (List.subset_append_right _ _)
  obtain ⟨ts0, hts⟩ : ∃ ts0, (extra = [] ∧ j = 0 ∧ ts0 = td) ∨ extra = [.int (j : Int) ts0] := by
    rcases hex with ⟨e1, e2⟩ | ⟨u, e1⟩
    · exact ⟨td, .inl ⟨e1, e2, rfl⟩⟩
    · exact ⟨u, .inr e1⟩
  refine enter (binds := [("chars", .str chars tc), ("start", .int (j : Int) ts0)]) (ks := ["first"]) B2 G hA2 Cf rfl ⟨_, _, _, _, rfl, Cc, hoc3, hoc4⟩ rfl ?_ rfl rfl rfl rfl ?_
  · rcases hts with ⟨rfl, rfl, rfl⟩ | rfl
    · exact BindsTo.of_defaults rfl CT rfl rfl rfl
    · exact BindsTo.of_defaults rfl CT rfl rfl rfl
  intro env2 A3 h7 E7 e7 hA3 S7
  dsimp only [List.reverse, List.reverseAux, List.map, List.append, List.cons_append, List.nil_append, List.length] at e7 S7 ⊢
  have cwP : ∀ {m N h}, FS TT s2.heap env2.locals m N h → h.IsCell (env.locals + 2) (some (.int pk tp)) := fun S => ⟨_, S.ext.keep _ _ C1.1 C1.2, d1⟩
  have cwT : ∀ {m N h}, FS TT s2.heap env2.locals m N h → h.IsCell (env.locals + 1) (some (.ref ta)) := fun S => ⟨_, S.ext.keep _ _ C2.1 C2.2, d2⟩
  have lD : ∀ {m N h}, FS TT s2.heap env2.locals m N h → ∀ p ∈ D, h.get? p.1 = some p.2 := fun S p hp => S.ext.keep _ _ (hND p hp).1 (hND p hp).2
  refine wpAny_execs_cons (wpAny_For ?_)
  refine Call_ (eBuiltin e7 (S7.bg B2) G rfl G.range0 G.range1 (PyProof.Rows.callWith_type1 (args_cons ?_)))
  walk_at "n"
  refine args_cons (wpAny_BinOp ?_)
  walk_at "blen"
  walk_at "n"
  refine args_nil (PyProof.Rows.len_str (by omega) ?_)
  refine wpAny_Constant_int (PyProof.Rows.add_int ?_)
  refine args_nil ?_
  refine range2_FS S7 fun r rv h71 tk71 S7 => ?_
  let P : Nat → Bool := fun p => decide (T.getD p [] ≠ [])
  refine range_for (x := "first") (ix := 2) (n := chars.length + 1 - j) (N := []) (K₀ := [_]) hA3.handled (S7.get (.head _)) (by omega) (by omega) (by omega) (by omega) (by split <;> omega) e7.kind (e7.kindOf rfl) rfl (by decide) S7
    (fun i vs N => N = [] ∧ ∃ fv, vs = [some (.int (j : Int) ts0), some (.str chars tc), fv] ∧ findFrom P (chars.length + 1 - j) j = findFrom P (chars.length + 1 - j - i) (j + i)) ?_ ⟨rfl, none, rfl, rfl⟩ ?_ ?_
  · rintro i vs N ⟨_, fv, rfl, _⟩; rfl
  · rintro i tvv vs N p h8 tk8 E8 hi ⟨rfl, fv, rfl, hJ⟩ S
    dsimp only [List.set] at S
    have hle : j + i < T.length := by omega
    obtain ⟨la, nl, ivs, g1, g2, g3⟩ := hT.2 (j + i) hle
    have hil := g3.length
    have hgl : (T.getD (j + i) []).length ≤ 200 := by
      rw [List.getD_eq_getElem?_getD, List.getElem?_eq_getElem hle]
      exact hTb _ (List.getElem_mem hle)
    rw [List.length_map] at hil
    have e0 : ((j : Int) + i).toNat = j + i := by omega
    obtain ⟨n', hn'⟩ : ∃ n', chars.length + 1 - j - i = n' + 1 := ⟨chars.length + 1 - j - i - 1, by omega⟩
    rw [hn', findFrom] at hJ
    refine wpAny_execs_cons (wpAny_If (wpAny_isTrue_value (Subscript_ ?_)))
    refine eFree e7 rfl rfl (cwT S) ?_
    walk_at "n"
    refine item_listL (isList_lst (lD S _ hta)) (by omega) (by omega) (by rw [e0]; exact g1) ?_
    refine wpAny_truthy_list (isList_lst (lD S _ g2)) (by simp; omega) ?_
    by_cases hP : T.getD (j + i) [] ≠ []
    · rw [if_pos (decide_eq_true hP)] at hJ
      rw [if_pos (by
        cases ivs with
        | nil => exact absurd (List.eq_nil_of_length_eq_zero hil.symm) hP
        | cons => rfl)]
      refine wpAny_execs_cons (wpAny_Return_some (Call_ ?_))
      refine eGlob e7 (S.bg B2) G rfl hHit ?_
      refine callG (ts := TT) (X 35 _ rfl) rfl (args_cons ?_)
      walk_at "n"
      refine args_cons (Subscript_ (Subscript_ ?_))
      refine eFree e7 rfl rfl (cwT S) ?_
      walk_at "n"
      refine item_listL (isList_lst (lD S _ hta)) (by omega) (by omega) (by rw [e0]; exact g1) ?_
      refine eFree e7 rfl rfl (cwP S) ?_
      refine tail_pick hpk (lD S _ g2) g3 hP (fun tq => ?_)
      refine args_nil ⟨S.bg B2, ?_⟩
      refine wpAny_call (hit_call X G (S.bg B2) hA3 hC1 fun a F h10 tk10 x10 l10 H10 => ?_)
      have S := S.callN x10 l10
      refine r2 (j + i) (pickV pk (T.getD (j + i) [])) ?_ a _ _ _ S.ext S.led ?_
      · unfold nxtT; rw [hJ]; rfl
      · have e1 : ((j + i : Nat) : Int) = (j : Int) + i := by omega
        rw [e1]
        exact H10.mono (by intro p hp; simp [hp])
    · rw [if_neg (fun q => hP (of_decide_eq_true q))] at hJ
      rw [if_neg (by
        have : ivs = [] := List.eq_nil_of_length_eq_zero (by rw [hil, Classical.not_not.mp hP]; rfl)
        subst this; simp)]
      refine wpAny_execs_nil (wpAny_execs_nil ?_)
      refine ⟨_, [], _, _, rfl, S, rfl, _, rfl, ?_⟩
      rw [hJ]
      congr 1
      omega
  · rintro vs N h8 tk8 ⟨rfl, fv, rfl, hJ⟩ S
    dsimp only
    refine wpAny_execs_cons (wpAny_Return_some (wpAny_Constant_none ?_))
    refine r1 ?_ _ _ S.ext
    unfold nxtT
    rw [hJ, Nat.sub_self]; rfl
end
def glue (c : List Nat) : List (List Nat) → List (List Nat)
  | [] => [c]
  | p :: ps => (c ++ p) :: ps
theorem glue_nil {l : List (List Nat)} (h : l ≠ []) : glue [] l = l := by cases l with | nil => exact absurd rfl h | cons => rfl
section
variable {w : World} {A : Around} {s : Shared} {gh : Heap} {mg mb : Str → Option Value}

theorem pieces_call {R : Result → Shared → Prop} {pt : Str} {t : Tok} {k : Nat} (X : (KK w.params).In gh) (G : Gd gh mg mb) (B : Bg gh TT s.heap) (hA : AOk A (k + 1)) (hpt : pt.length ≤ 100)
    (h : ∀ a vs n F h' tk, Ext TT s.heap h' → Led s.heap F h' → (a, lst vs n) ∈ F → StrsAre vs ((splitL pt.cps.toList).map ofL) → R (.ok (.ret (.ref a))) { s with heap := h', toks := tk }) :
    codeAny (model PP w) A (.call (.ref 49) ⟨[.str pt t], []⟩) R s := by
  have ho := X 49 _ rfl
  have ho' := B.st _ _ ho
  refine enter (binds := [("pattern", .str pt t)]) (ks := ["pieces", "place"]) B G hA ho' rfl ((codeRec_of X (q := "_law_pieces") rfl).keeps B.st) rfl (BindsTo.of_eq rfl) rfl rfl rfl rfl ?_
  clear ho ho'
  intro env A' h₁ E' e hA' S
  dsimp only [List.reverse, List.reverseAux, List.map, List.append, List.cons_append, List.nil_append, List.length] at e S ⊢
  refine wpAny_execs_cons (wpAny_Assign_Name (List_ (wpAny_items_cons (wpAny_Constant_str (wpAny_items_nil ?_)))))
  refine newList_FS S (fun S => ?_) (by rw [sizeLine_eq]; simp)
  walk_at "s1"
  intro h2 S
  dsimp only [List.set] at S ⊢
  refine wpAny_execs_cons (wpAny_Assign_Name (wpAny_Constant_int ?_))
  walk_at "s2"
  intro h3 S
  dsimp only [List.set] at S ⊢
  generalize hD : h₁.objs.size = D at *
  refine cut_next (fun s' => ∃ (vs : List Value) (n : Nat) (h : Heap) (tk : Nat) (v2 : Option Value), s' = { s with heap := h, toks := tk } ∧ FS TT s.heap env.locals (amap ["pattern", "pieces", "place"] [some (.str pt t), some (.ref D), v2]) [(D, lst vs n)] h ∧ StrsAre vs ((splitL pt.cps.toList).map ofL)) (fun E1 => ?_) ?_
  · refine while_loop (n₀ := pt.length) (fun n vs N => ∃ (ys : List Value) (dn : List (List Nat)) (cur : List Nat) (tc : Tok) (nn p : Nat) (t2 : Tok), vs = [some (.str pt t), some (.ref D), some (.int (p : Nat) t2)] ∧ N = [(D, lst (ys ++ [.str (ofL cur) tc]) nn)] ∧ StrsAre ys (dn.map ofL) ∧ ys.length + (pt.length - p) ≤ 200 ∧ cur.length ≤ p ∧ n = pt.length - p ∧
        splitL pt.cps.toList = dn ++ glue cur (splitL (pt.cps.toList.drop p))) S ?_ ?_
    · exact ⟨[], [], [], _, 0, 0, _, rfl, rfl, .nil, by simp; omega, by simp, rfl, by rw [glue_nil (splitL_ne _)]; rfl⟩
    clear S
    rintro n vs N h4 tk4 E4 ⟨ys, dn, cur, tc, nn, p, t2, rfl, rfl, hys, hyl, hcl, rfl, hsp⟩ S
    refine wpAny_isTrue_Compare1 ?_
    walk_at "n"
    walk_at "blen"
    walk_at "n"
    refine args_nil (PyProof.Rows.len_str (by omega) ?_)
    refine PyProof.Rows.lt_int (wpAny_truthy_bool ?_)
    by_cases hp : p < pt.length
    · rw [if_pos (by simpa using hp)]
      obtain ⟨c, hc⟩ : ∃ c, pt.cps.toList[p]? = some c := ⟨_, List.getElem?_eq_getElem (by rw [len_toList]; exact hp)⟩
      have hdrop : pt.cps.toList.drop p = c :: pt.cps.toList.drop (p + 1) := by
        obtain ⟨hlt, he⟩ := List.getElem?_eq_some_iff.mp hc
        rw [List.drop_eq_getElem_cons hlt, he]
      refine wpAny_execs_cons (wpAny_If (wpAny_isTrue_Compare1 (Subscript_ ?_)))
      dsimp only
      walk_at "n"
      refine wpAny_Slice (evalPart_some_step ?_)
      walk_at "n"
      refine evalPart_some_step (wpAny_BinOp ?_)
      walk_at "n"
      refine wpAny_Constant_int (PyProof.Rows.add_int (evalPart_none_step ?_))
      refine cut_ss (a := p) (b := p + 3) S (by omega) (by omega) (by omega) (fun h9 t9 k9 S => ?_)
      dsimp only
      refine wpAny_Constant_str ?_
      refine PyProof.Rows.eq_str (wpAny_truthy_bool ?_)
      have hcut : (pt.cps.toList.take (p + 3)).drop p = (c :: pt.cps.toList.drop (p + 1)).take 3 := by
        rw [← hdrop, List.drop_take, Nat.add_sub_cancel_left]
      rw [hcut]
      by_cases hP : (c :: pt.cps.toList.drop (p + 1)).take 3 = [46, 46, 46]
      · have hd46 : ("..." : Str).cps.toList = [46, 46, 46] := by decide +kernel
        rw [if_pos (strEq_of (decide_eq_true (by rw [hd46]; exact hP)))]
        rw [hdrop, splitL, if_pos hP, List.drop_drop] at hsp
        refine wpAny_execs_cons (wpAny_Expr (MethodCall_ ?_) (by unfold interactive; rw [e.kind]; rfl) rfl)
        walk_at "n"
        refine Calls.getMethod_list_append (S.get (.head _)) rfl rfl (callWith_method1 (args_cons (wpAny_Constant_str (args_nil ?_))))
        refine append_FS (pre := []) S (by simp; omega) fun h10 n10 S => ?_
        dsimp only
        refine wpAny_execs_cons (wpAny_AugAssign_Name ?_)
        refine eLdn e S rfl rfl (wpAny_Constant_int (PyProof.Rows.iadd_int ?_))
        walk_at "s2"
        intro h11 S
        dsimp only [List.set] at S ⊢
        refine wpAny_execs_nil (wpAny_execs_nil ?_)
        have e6 : (p : Int) + 3 = ((p + 3 : Nat) : Int) := by omega
        rw [e6] at S
        have hlen3 : p + 3 ≤ pt.length := by
          have := congrArg List.length hP
          rw [← hdrop] at this
          simp [Str.length] at this ⊢
          omega
        refine ⟨pt.length - (p + 3), _, _, _, _, rfl, by omega, S, ys ++ [.str (ofL cur) tc], dn ++ [cur], [], _, _, p + 3, _, rfl, rfl, ?_, by simp; omega, by simp, rfl, ?_⟩
        · rw [List.map_append]; exact strs_snoc _ _ hys
        · rw [hsp, glue_nil (splitL_ne _)]
          simp [glue]
      · have hd46 : ("..." : Str).cps.toList = [46, 46, 46] := by decide +kernel
        rw [if_neg (strNe_of (by rw [hd46]; simpa using hP))]
        obtain ⟨p1, ps1, hs1⟩ : ∃ p1 ps1, splitL (pt.cps.toList.drop (p + 1)) = p1 :: ps1 := by
          cases hq : splitL (pt.cps.toList.drop (p + 1)) with
          | nil => exact absurd hq (splitL_ne _)
          | cons a b => exact ⟨a, b, rfl⟩
        rw [hdrop, splitL_cons_ne hP hs1] at hsp
        refine wpAny_execs_cons (wpAny_AugAssign_SubscriptAny ?_)
        walk_at "n"
        refine wpAny_UnaryOp (wpAny_Constant_int (neg_int ?_))
        refine get_last (S.get (.head _)) (Subscript_ ?_)
        walk_at "n"
        walk_at "n"
        refine item_str (fits_small (by omega) (by omega)) (by omega) (by omega) (fun _ => ?_)
        rw [itemL hc]
        have hc1 : (ofL [c]).length = 1 := rfl
        refine PyProof.Rows.iadd_str (fun t' tk => ?_) (by rw [sizeLine_eq, ofL_length]; omega)
        rw [ofL_append]
        refine set_last (pre := []) S fun h10 n10 S => ?_
        dsimp only
        refine wpAny_execs_cons (wpAny_AugAssign_Name ?_)
        refine eLdn e S rfl rfl (wpAny_Constant_int (PyProof.Rows.iadd_int ?_))
        walk_at "s2"
        intro h11 S
        dsimp only [List.set] at S ⊢
        refine wpAny_execs_nil (wpAny_execs_nil ?_)
        have e6 : (p : Int) + 1 = ((p + 1 : Nat) : Int) := by omega
        rw [e6] at S
        refine ⟨pt.length - (p + 1), _, _, _, _, rfl, by omega, S, ys, dn, cur ++ [c], _, _, p + 1, _, rfl, rfl, hys, by omega, by simp; omega, rfl, ?_⟩
        rw [hsp, hs1]
        simp [glue]
    · rw [if_neg (by simpa using hp)]
      have hnil : pt.cps.toList.drop p = [] := List.drop_eq_nil_of_le (by rw [len_toList]; omega)
      rw [hnil] at hsp
      have hsp2 : splitL pt.cps.toList = dn ++ [cur] := by rw [hsp]; simp [splitL, glue]
      refine ⟨_, _, _, _, _, rfl, S, ?_⟩
      rw [hsp2, List.map_append]
      exact strs_snoc _ _ hys
  rintro s' ⟨vs, n, h4, tk4, v2, rfl, S, hstr⟩
  refine wpAny_execs_cons (wpAny_Return_some ?_)
  walk_at "n"
  exact h _ _ _ _ _ _ S.ext S.led (.head _) hstr
end
section
variable {w : World} {A : Around} {s : Shared} {gh : Heap} {mg mb : Str → Option Value}

theorem ends_call {R : Result → Shared → Prop} {pa : Addr} {pv : List Value} {nr : Nat} {ps : List (List Nat)} {tx : Str} {f : Nat} {t tf : Tok} {k : Nat} {D : List (Addr × Obj)} (X : (KK w.params).In gh) (G : Gd gh mg mb) (B : Bg gh TT s.heap) (hA : AOk A (k + 1))
    (hD : Firm TT D s.heap) (hr : (pa, lst pv nr) ∈ D) (hI : StrsAre pv (ps.map ofL)) (hpl : ps.length ≤ 200) (hpp : ∀ p ∈ ps, p.length ≤ 100) (htx : tx.length ≤ 100) (hf : f ≤ tx.length)
    (h : ∀ a vs n F h' tk, Ext TT s.heap h' → Led s.heap F h' → (a, lst vs n) ∈ F → IntsAre vs ((endsGo tx.cps.toList ps 0 [f]).map Int.ofNat) → R (.ok (.ret (.ref a))) { s with heap := h', toks := tk }) :
    codeAny (model PP w) A (.call (.ref 54) ⟨[.ref pa, .str tx t, .int (f : Nat) tf], []⟩) R s := by
  have ho := X 54 _ rfl
  have ho' := B.st _ _ ho
  refine enterM (binds := [("pieces", .ref pa), ("text", .str tx t), ("first", .int (f : Nat) tf)]) (ns0 := ["first", "pieces"]) (vs0 := [some (.int (f : Nat) tf), some (.ref pa)]) (ks := ["ends", "number"]) B G hA ho' rfl ((codeRec_of X (q := "_law_ends") rfl).keeps B.st) rfl (BindsTo.of_eq rfl) rfl rfl rfl ?_ ?_ ?_ rfl ?_
  · intro n x hx
    simp only [List.mem_cons, List.not_mem_nil, or_false] at hx
    rcases hx with rfl | rfl | rfl
    · exact .inl rfl
    · exact .inr ⟨rfl, rfl⟩
    · exact .inl rfl
  · decide +kernel
  · rfl
  clear ho ho'
  intro env A' h₁ tk cells E' e hA' Y S
  obtain ⟨oP, oT, rfl, dP, dT⟩ := CellsAre.two Y
  dsimp only [List.map, List.append, List.cons_append, List.nil_append] at e S ⊢
  have dT' : oT.data = .cell (some (.str tx t)) := dT
  have dP' : oP.data = .cell none := dP
  clear dP dT Y
  have hrl : ∀ {L m N h}, FS TT s.heap L m N h → h.get? pa = some (lst pv nr) := fun S => S.ext.keep _ _ (hD _ hr).1 (hD _ hr).2
  have hvl := hI.length
  rw [List.length_map] at hvl
  refine wpAny_execs_cons (wpAny_Assign_Name (List_ (wpAny_items_cons ?_)))
  walk_at "n"
  refine wpAny_items_nil ?_
  refine newList_FS S (fun S => ?_) (by rw [sizeLine_eq]; simp)
  walk_at "s2"
  intro h2 S
  dsimp only [List.set] at S ⊢
  generalize h₁.objs.size = ea0 at *
  refine wpAny_execs_cons (wpAny_For (Call_ ?_))
  refine eBuiltin e (S.bg B) G rfl G.range0 G.range1 (PyProof.Rows.callWith_type1 (args_cons ?_))
  walk_at "blen"
  walk_at "n"
  refine args_nil (len_list (isList_lst (hrl S)) (by simp; omega) (args_nil ?_))
  refine range1_FSo S fun r ro rt ru rv h3 tk3 hro S => ?_
  have hxl := len_toList tx
  have S := S.perm (perm_cbad _ _ _ _)
  refine range_for (x := "number") (ix := 3) (n := ps.length) (K₀ := [(r, ro), (env.locals + 1, oT)]) hA'.handled (hro ▸ S.get (List.mem_append_right _ (.head _))) (by omega) (by omega) (by omega) (by simp; omega) (by simp; split <;> omega) e.kind (e.kindOf rfl) rfl (by decide) S
    (fun i vs N => ∃ oc ov ea evs n v3 cur, N = [(env.locals + 2, oc), (ea, lst evs n)] ∧ oc.data = .cell ov ∧ IntsAre evs (cur.map Int.ofNat) ∧ vs = [some (.int (f : Nat) tf), some (.ref pa), some (.ref ea), v3] ∧
      (∀ e ∈ cur, e ≤ tx.cps.toList.length) ∧ cur.length ≤ tx.cps.toList.length + 1 ∧ endsGo tx.cps.toList ps 0 [f] = endsGo tx.cps.toList (ps.drop i) i cur) ?_
    ⟨oP, none, ea0, _, _, _, [f], rfl, dP', .cons _ _ .nil, rfl, (fun e' he => by rw [List.mem_singleton] at he; rw [he, hxl]; exact hf), by simp, rfl⟩ ?_ ?_
  · rintro i vs N ⟨_, _, _, _, _, _, _, _, _, _, rfl, _⟩; rfl
  · rintro i tv vs N p h4 tk4 E4 hi ⟨oc, ov, ea, evs, n, v3, cur, rfl, hoc, hev, rfl, hcur, hcl, hgo⟩ S
    dsimp only [List.set, List.cons_append, List.nil_append] at S
    rw [Int.zero_add] at S
    have hdr : ps.drop i = ps[i] :: ps.drop (i + 1) := List.drop_eq_getElem_cons hi
    rw [hdr, endsGo] at hgo
    have hpc : (ps[i]).length ≤ 100 := hpp _ (List.getElem_mem hi)
    obtain ⟨tp, hpv⟩ : ∃ tp, pv[i]? = some (.str (ofL ps[i]) tp) := hI.get i (ofL ps[i]) (by simp [hi])
    generalize ps[i] = pc at *
    have hpcl := ofL_length pc
    have hevl := hev.length
    rw [List.length_map] at hevl
    refine wpAny_execs_cons (wpAny_Assign_Name (Subscript_ ?_))
    walk_at "n"
    walk_at "n"
    refine item_listL (isList_lst (hrl S)) (by omega) (by omega) (by simpa using hpv) ?_
    refine sCell (pre := []) e rfl rfl S hoc fun h5 oc5 hoc5 S => ?_
    clear hoc
    dsimp only [List.cons_append, List.nil_append] at S ⊢
    -- the source
    refine cut_next (fun s' => ∃ (ea2 : Addr) (evs2 : List Value) (n2 : Nat) (h : Heap) (tk : Nat), s' = { s with heap := h, toks := tk } ∧ FS TT s.heap env.locals (amap ["first", "pieces", "ends", "number"] [some (.int (f : Nat) tf), some (.ref pa), some (.ref ea2), some (.int (i : Nat) tv)]) ((ea2, lst evs2 n2) :: [(env.locals + 2, oc5), p, (r, ro), (env.locals + 1, oT)]) h ∧
        IntsAre evs2 ((if i > 0 ∧ cur ≠ [] then List.range' (cur.headD 0) (tx.cps.toList.length + 1 - cur.headD 0) else cur).map Int.ofNat)) (fun E5 => ?_) ?_
    · refine wpAny_If (isTrue_and (wpAny_isTrue_Compare1 ?_))
      walk_at "n"
      refine wpAny_Constant_int (PyProof.Rows.gt_int (wpAny_truthy_bool ?_))
      have skip : ∀ {h tk}, FS TT s.heap env.locals (amap ["first", "pieces", "ends", "number"] [some (.int (f : Nat) tf), some (.ref pa), some (.ref ea), some (.int (i : Nat) tv)]) ((env.locals + 2, oc5) :: (ea, lst evs n) :: [p, (r, ro), (env.locals + 1, oT)]) h → ¬ (i > 0 ∧ cur ≠ []) →
          ∃ (ea2 : Addr) (evs2 : List Value) (n2 : Nat) (h' : Heap) (tk' : Nat), ({ s with heap := h, toks := tk } : Shared) = { s with heap := h', toks := tk' } ∧ FS TT s.heap env.locals (amap ["first", "pieces", "ends", "number"] [some (.int (f : Nat) tf), some (.ref pa), some (.ref ea2), some (.int (i : Nat) tv)]) ((ea2, lst evs2 n2) :: [(env.locals + 2, oc5), p, (r, ro), (env.locals + 1, oT)]) h' ∧
            IntsAre evs2 ((if i > 0 ∧ cur ≠ [] then List.range' (cur.headD 0) (tx.cps.toList.length + 1 - cur.headD 0) else cur).map Int.ofNat) := fun S hno => ⟨ea, evs, n, _, _, rfl, S.perm (List.Perm.swap _ _ _), by rw [if_neg hno]; exact hev⟩
      by_cases c1 : i > 0
      · rw [if_pos (by simpa using c1)]
        refine isTrue_and (wpAny_isTrue_value ?_)
        walk_at "n"
        refine wpAny_truthy_list (isList_lst (S.get (.tail _ (.head _)))) (by simp; omega) ?_
        by_cases c2 : cur ≠ []
        · rw [if_pos (by
            cases evs with
            | nil => exact absurd (List.eq_nil_of_length_eq_zero hevl.symm) c2
            | cons => rfl)]
          refine isTrue_and_nil ?_
          simp only [if_true]
          obtain ⟨th, hhd⟩ := ints_head hev c2
          have hhb : cur.headD 0 ≤ tx.cps.toList.length := by
            cases cur with
            | nil => exact absurd rfl c2
            | cons a b => exact hcur a (.head _)
          refine wpAny_execs_cons (wpAny_Assign_Name (Call_ ?_))
          refine eBuiltin e (S.bg B) G rfl G.list0 G.list1 (PyProof.Rows.callWith_type1 (args_cons (Call_ ?_)))
          refine eBuiltin e (S.bg B) G rfl G.range0 G.range1 (PyProof.Rows.callWith_type1 (args_cons (Subscript_ ?_)))
          walk_at "n"
          refine wpAny_Constant_int ?_
          refine item_listL (isList_lst (S.get (.tail _ (.head _)))) (by decide) (by decide) hhd ?_
          refine args_cons (wpAny_BinOp ?_)
          walk_at "blen"
          refine eCell e rfl rfl (S.get (.tail _ (.tail _ (.tail _ (.tail _ (.head _)))))) dT' ?_
          refine args_nil (PyProof.Rows.len_str (by omega) ?_)
          refine wpAny_Constant_int (PyProof.Rows.add_int (args_nil ?_))
          refine range2_FS S fun r2 rv2 h6 tk6 S => ?_
          refine args_nil ?_
          refine list_range_FS (a := cur.headD 0) (n := tx.cps.toList.length + 1 - cur.headD 0) hA'.handled S (S.get (.head _)) (by omega) (by omega) (by omega) (by split <;> omega) fun Dn ys n' h7 tk7 hys S => ?_
          walk_at "s2"
          intro h8 S
          dsimp only [List.set] at S ⊢
          refine wpAny_execs_nil ⟨Dn, ys, n', _, _, rfl, S.sub (.cons_cons _ (.cons _ (.cons_cons _ (.cons _ (List.Sublist.refl _))))), ?_⟩
          rw [if_pos ⟨c1, c2⟩]; exact hys
        · rw [if_neg (by
            have : evs = [] := List.eq_nil_of_length_eq_zero (by rw [hevl, Classical.not_not.mp c2]; rfl)
            subst this; simp)]
          simp only [Bool.false_eq_true, if_false]
          exact wpAny_execs_nil (skip S fun q => c2 q.2)
      · rw [if_neg (by simpa using c1)]
        simp only [Bool.false_eq_true, if_false]
        exact wpAny_execs_nil (skip S fun q => c1 q.1)
    clear S hev hevl
    rintro s' ⟨ea2, evs2, n2, h6, tk6, rfl, S, hev2⟩
    have hstep := endsStep_ok (p := pc) (num := i) hcur hcl
    unfold endsStep at hstep
    have hsrcb : (∀ e ∈ (if i > 0 ∧ cur ≠ [] then List.range' (cur.headD 0) (tx.cps.toList.length + 1 - cur.headD 0) else cur), e ≤ tx.cps.toList.length) ∧ (if i > 0 ∧ cur ≠ [] then List.range' (cur.headD 0) (tx.cps.toList.length + 1 - cur.headD 0) else cur).length ≤ tx.cps.toList.length + 1 := by
      split
      · exact ⟨fun e he => by rw [List.mem_range'_1] at he; omega, by rw [List.length_range']; omega⟩
      · exact ⟨hcur, hcl⟩
    unfold endsStep at hgo
    generalize (if i > 0 ∧ cur ≠ [] then List.range' (cur.headD 0) (tx.cps.toList.length + 1 - cur.headD 0) else cur) = src at *
    have hevl := hev2.length
    rw [List.length_map] at hevl
    refine wpAny_execs_cons ?_
    refine Assign_comp (iy := 2) (clos := [("text", env.locals + 1), ("piece", env.locals + 2)]) (names' := [(".0", .local), ("end", .local), ("len", .globalImplicit), ("piece", .cell), ("text", .cell)]) (l := ea2) (items := evs2) ?_ hA'.handled
      (fun h L m N' S => isList_lst (S.get (List.mem_append_right _ (.head _)))) e S (fun Q' hq => ?_) ?_ rfl ?_ ?_ ?_ rfl rfl rfl (by decide) rfl
      (fun j ys => IntsAre ys ((((src.take j).filter (hitB pc tx.cps.toList)).map (· + pc.length)).map Int.ofNat) ∧ ys.length ≤ j ∧ j ≤ 101) ⟨.nil, Nat.le_refl _, by omega⟩ (fun j ys hh => by have := hh.2; omega) ?_ ?_
    · unfold swapsWith Env.blockKind
      dsimp only
      rw [e.kind, e.kindOf (x := "ends") rfl]; rfl
    · walk_at "n"; exact hq
    · unfold closureFor cellOf
      rw [e.cells]
      rfl
    · unfold Env.kindOf
      rw [e.kind, e.names]; rfl
    · decide +kernel
    · decide +kernel
    · intro cenv ec j v ys N₁ N₂ h7 tk7 E7 hv ⟨hJ1, hJ2, hJ3⟩ S
      obtain ⟨ev, te, rfl, hev3⟩ := hev2.at j v hv
      obtain ⟨e0, he0, rfl⟩ : ∃ e0 : Nat, src[j]? = some e0 ∧ ev = (e0 : Int) := by
        rw [List.getElem?_map, Option.map_eq_some_iff] at hev3
        obtain ⟨e0, h1, h2⟩ := hev3
        exact ⟨e0, h1, h2.symm⟩
      have hjl : j < src.length := (List.getElem?_eq_some_iff.mp he0).1
      have he0b : e0 ≤ tx.cps.toList.length := hsrcb.1 e0 (List.mem_of_getElem? he0)
      have hcellP : ∀ {L m N' h}, FS TT s.heap L m (N' ++ (N₂ ++ ((ea2, lst evs2 n2) :: [(env.locals + 2, oc5), p, (r, ro), (env.locals + 1, oT)]))) h → h.get? (env.locals + 2) = some oc5 ∧ h.get? (env.locals + 1) = some oT := fun S => ⟨S.get (List.mem_append_right _ (List.mem_append_right _ (.tail _ (.head _)))), S.get (List.mem_append_right _ (List.mem_append_right _ (.tail _ (.tail _ (.tail _ (.tail _ (.head _)))))))⟩
      have htk : src.take (j + 1) = src.take j ++ [e0] := by rw [List.take_add_one, he0]; rfl
      refine wpAny_tests_one (wpAny_isTrue_Compare1 (Subscript_ ?_))
      refine eCell ec rfl rfl (hcellP S).2 dT' ?_
      refine wpAny_Slice (evalPart_some_step ?_)
      walk_at "n"
      refine evalPart_some_step (wpAny_BinOp ?_)
      walk_at "n"
      walk_at "blen"
      refine eCell ec rfl rfl (hcellP S).1 hoc5 ?_
      refine args_nil (PyProof.Rows.len_str (by omega) ?_)
      refine PyProof.Rows.add_int (evalPart_none_step ?_)
      refine cut_ss (a := e0) (b := e0 + pc.length) S rfl (by omega) (by omega) (fun h8 t8 k8 S => ?_)
      dsimp only
      refine eCell ec rfl rfl (hcellP S).1 hoc5 ?_
      refine PyProof.Rows.eq_str (wpAny_truthy_bool ?_)
      have hbq : ((⟨((tx.cps.toList.take (e0 + pc.length)).drop e0).toArray⟩ : Str) == ofL pc) = hitB pc tx.cps.toList e0 := beq_ofL2 _ _
      rw [hbq]
      by_cases hh : hitB pc tx.cps.toList e0 = true
      · rw [if_pos hh]
        refine wpAny_BinOp ?_
        walk_at "n"
        walk_at "blen"
        refine eCell ec rfl rfl (hcellP S).1 hoc5 ?_
        refine args_nil (PyProof.Rows.len_str (by omega) ?_)
        refine PyProof.Rows.add_int ?_
        refine ⟨N₁, _, _, _, rfl, S, ?_, by simp; omega, by omega⟩
        rw [htk, List.filter_append, List.filter_cons_of_pos hh, List.filter_nil, List.map_append, List.map_append]
        refine IntsAre.append hJ1 ?_
        have e9 : (e0 : Int) + ((ofL pc).length : Int) = Int.ofNat (e0 + pc.length) := by rw [hpcl]; rfl
        rw [e9]
        exact .cons _ _ .nil
      · rw [if_neg hh]
        refine ⟨N₁, _, _, _, rfl, S, ?_, by omega, by omega⟩
        rw [htk, List.filter_append, List.filter_cons_of_neg hh, List.filter_nil, List.append_nil]
        exact hJ1
    · intro Dn ys nD h7 tk7 ⟨hJ1, hJ2, _⟩ S
      dsimp only [List.set] at S ⊢
      rw [List.take_of_length_le (by omega)] at hJ1
      refine wpAny_execs_nil ?_
      have S := S.sub (N' := (Dn, lst ys nD) :: (env.locals + 2, oc5) :: p :: (r, ro) :: [(env.locals + 1, oT)]) (.cons_cons _ (.cons _ (List.Sublist.refl _)))
      have S := S.perm (List.Perm.swap _ _ _)
      exact ⟨_, [(env.locals + 2, oc5), (Dn, lst ys nD)], _, _, rfl, S, oc5, _, Dn, ys, nD, _, _, rfl, hoc5, hJ1, rfl, hstep.1, hstep.2, hgo⟩
  · rintro vs N h4 tk4 ⟨oc, ov, ea, evs, n, v3, cur, rfl, hoc, hev, rfl, hcur, hcl, hgo⟩ S
    rw [List.drop_length, endsGo] at hgo
    dsimp only
    refine wpAny_execs_cons (wpAny_Return_some ?_)
    walk_at "n"
    refine h _ _ _ _ _ _ S.ext S.led (.tail _ (.head _)) ?_
    rw [hgo]; exact hev
end
section
variable {w : World} {A : Around} {s : Shared} {gh : Heap} {mg mb : Str → Option Value}

theorem counted_call {R : Result → Shared → Prop} {pa : Addr} {pv : List Value} {nr : Nat} {ps : List (List Nat)} {tx : Str} {pk : Int} {t tp : Tok} {k : Nat} {D : List (Addr × Obj)} (X : (KK w.params).In gh) (G : Gd gh mg mb) (B : Bg gh TT s.heap) (hA : AOk A (k + 2))
    (hEn : mg "_law_ends" = some (.ref 54)) (hpk : pk = 0 ∨ pk = -1)
    (hD : Firm TT D s.heap) (hr : (pa, lst pv nr) ∈ D) (hI : StrsAre pv (ps.map ofL)) (hpl : ps.length ≤ 200) (hpp : ∀ p ∈ ps, p.length ≤ 100) (htx : tx.length ≤ 100)
    (h : ∀ a vs n F h' tk, Ext TT s.heap h' → Led s.heap F h' → (a, lst vs n) ∈ F → PairsIn F vs (cntGo (fun f => endsGo tx.cps.toList ps 0 [f]) pk (tx.length + 1) 0 []) → R (.ok (.ret (.ref a))) { s with heap := h', toks := tk }) :
    codeAny (model PP w) A (.call (.ref 61) ⟨[.ref pa, .str tx t, .int pk tp], []⟩) R s := by
  have ho := X 61 _ rfl
  have ho' := B.st _ _ ho
  refine enter (binds := [("pieces", .ref pa), ("text", .str tx t), ("pick", .int pk tp)]) (ks := ["counted", "first", "ends"]) B G hA ho' rfl ((codeRec_of X (q := "_law_counted") rfl).keeps B.st) rfl (BindsTo.of_eq rfl) rfl rfl rfl rfl ?_
  clear ho ho'
  intro env A' h₁ E' e hA' S
  dsimp only [List.reverse, List.reverseAux, List.map, List.append, List.cons_append, List.nil_append, List.length] at e S ⊢
  have hxl := len_toList tx
  generalize hCB : cntGo (fun f => endsGo tx.cps.toList ps 0 [f]) pk (tx.length + 1) 0 [] = CB at *
  refine wpAny_execs_cons (wpAny_Assign_Name (List_ (wpAny_items_nil ?_)))
  refine newList_FS S (fun S => ?_) (by rw [sizeLine_eq]; simp)
  walk_at "s3"
  intro h2 S
  dsimp only [List.set] at S ⊢
  generalize h₁.objs.size = ca at *
  refine wpAny_execs_cons (wpAny_For (Call_ ?_))
  refine eBuiltin e (S.bg B) G rfl G.range0 G.range1 (PyProof.Rows.callWith_type1 (args_cons (wpAny_BinOp ?_)))
  walk_at "blen"
  walk_at "n"
  refine args_nil (PyProof.Rows.len_str (by omega) ?_)
  refine wpAny_Constant_int (PyProof.Rows.add_int (args_nil ?_))
  refine range1_FSo S fun r ro rt ru rv h3 tk3 hro S => ?_
  have S := S.perm (List.Perm.swap _ _ _)
  refine range_for (x := "first") (ix := 4) (n := tx.length + 1) (N := [(ca, lst [] 0)]) (K₀ := [(r, ro)]) hA'.handled (hro ▸ S.get (.tail _ (.head _))) (by omega) (by omega) (by omega) (by omega) (by split <;> omega) e.kind (e.kindOf rfl) rfl (by decide) S
    (fun i vs N => ∃ cvs n M c v4 v5, N = (ca, lst cvs n) :: M ∧ PairsIn M cvs c ∧ vs = [some (.int pk tp), some (.str tx t), some (.ref pa), some (.ref ca), v4, v5] ∧ c.length ≤ i ∧
      CB = cntGo (fun f => endsGo tx.cps.toList ps 0 [f]) pk (tx.length + 1 - i) i c) ?_
    ⟨[], 0, [], [], _, _, rfl, ⟨rfl, fun i hi => by simp at hi⟩, rfl, by simp, hCB.symm⟩ ?_ ?_
  · rintro i vs N ⟨_, _, _, _, _, _, _, _, rfl, _⟩; rfl
  · rintro i tv vs N p h4 tk4 E4 hi ⟨cvs, n, M, c, v4, v5, rfl, hP, rfl, hcl, hgo⟩ S
    dsimp only [List.set, List.cons_append] at S
    rw [Int.zero_add] at S
    obtain ⟨n', hn'⟩ : ∃ n', tx.length + 1 - i = n' + 1 := ⟨tx.length - i, by omega⟩
    rw [hn', cntGo] at hgo
    have hn2 : n' = tx.length + 1 - (i + 1) := by omega
    rw [hn2] at hgo
    refine wpAny_execs_cons (wpAny_Assign_Name (Call_ ?_))
    refine eGlob e (S.bg B) G rfl hEn ?_
    refine callG (ts := TT) (X 54 _ rfl) rfl (args_cons ?_)
    walk_at "n"
    refine args_cons ?_
    walk_at "n"
    refine args_cons ?_
    walk_at "n"
    refine args_nil ⟨S.bg B, wpAny_call (ends_call X G (S.bg B) (hA'.less (j := 1) (by omega)) (hD.ext S.ext) hr hI hpl hpp htx (by omega) fun ea evs en F h5 tk5 x5 l5 m5 hev => ?_)⟩
    have S := S.callN x5 l5
    have hok := endsGo_ok tx.cps.toList ps 0 [i] (fun e' he => by rw [List.mem_singleton] at he; omega) (by simp)
    generalize hEf : endsGo tx.cps.toList ps 0 [i] = Ef at *
    have hevl := hev.length
    rw [List.length_map] at hevl
    have hel := hok.2
    walk_at "s5"
    intro h6 S
    dsimp only [List.set] at S ⊢
    have hcvl := hP.1
    have hca : ∀ {L m h}, FS TT s.heap L m (F ++ (ca, lst cvs n) :: (M ++ p :: [(r, ro)])) h → h.get? ca = some (lst cvs n) := fun S => S.get (List.mem_append_right _ (.head _))
    refine wpAny_execs_cons (wpAny_If (wpAny_mono (Q := fun b s' => ∃ h tk, s' = { s with heap := h, toks := tk } ∧ b = decide (Ef ≠ [] ∧ (c = [] ∨ (c.getLastD (0, 0)).2 ≤ i)) ∧ FS TT s.heap env.locals (amap ["pick", "text", "pieces", "counted", "first", "ends"] [some (.int pk tp), some (.str tx t), some (.ref pa), some (.ref ca), some (.int (i : Nat) tv), some (.ref ea)]) (F ++ (ca, lst cvs n) :: (M ++ p :: [(r, ro)])) h) ?_ (fun b s' hb => ?_) (fun _ _ x => x)))
    · refine isTrue_and (wpAny_isTrue_value ?_)
      walk_at "n"
      refine wpAny_truthy_list (isList_lst (S.get (List.mem_append_left _ m5))) (by simp; omega) ?_
      by_cases c1 : Ef ≠ []
      · rw [if_pos (by
          cases evs with
          | nil => exact absurd (List.eq_nil_of_length_eq_zero hevl.symm) c1
          | cons => rfl)]
        refine isTrue_and (isTrue_or (isTrue_not (wpAny_isTrue_value ?_)))
        walk_at "n"
        refine wpAny_truthy_list (isList_lst (hca S)) (by simp; omega) ?_
        by_cases c2 : c = []
        · have hcv : cvs = [] := List.eq_nil_of_length_eq_zero (by rw [hcvl, c2]; rfl)
          rw [if_pos (by rw [hcv]; rfl), if_pos rfl]
          refine isTrue_and_nil ⟨_, _, rfl, (decide_eq_true ⟨c1, .inl c2⟩).symm, S⟩
        · rw [if_neg (by
            cases cvs with
            | nil => exact absurd (List.eq_nil_of_length_eq_zero hcvl.symm) c2
            | cons => simp)]
          obtain ⟨al, u1, u2, hlast, hmem⟩ := hP.last c2
          refine isTrue_or (wpAny_isTrue_Compare1 (Subscript_ (Subscript_ ?_)))
          walk_at "n"
          refine wpAny_UnaryOp (wpAny_Constant_int (neg_int ?_))
          refine item_last (hca S) hlast ?_
          refine wpAny_Constant_int ?_
          refine item_tupleT (j := 1) (isTup_tpl (S.get (List.mem_append_right _ (.tail _ (List.mem_append_left _ hmem))))) (by decide) (by decide) rfl rfl ?_
          walk_at "n"
          refine PyProof.Rows.le_int (wpAny_truthy_bool ?_)
          by_cases c3 : (c.getLastD (0, 0)).2 ≤ i
          · rw [if_pos (by simpa using c3), if_pos rfl]
            refine isTrue_and_nil ⟨_, _, rfl, (decide_eq_true ⟨c1, .inr c3⟩).symm, S⟩
          · rw [if_neg (by simpa using c3)]
            refine isTrue_or_nil ?_
            rw [if_neg (by simp)]
            exact ⟨_, _, rfl, (decide_eq_false (fun q => q.2.elim c2 c3)).symm, S⟩
      · rw [if_neg (by
          have : evs = [] := List.eq_nil_of_length_eq_zero (by rw [hevl, Classical.not_not.mp c1]; rfl)
          subst this; simp)]
        exact ⟨_, _, rfl, (decide_eq_false (fun q => c1 q.1)).symm, S⟩
    obtain ⟨h7, tk7, rfl, rfl, S⟩ := hb
    by_cases hcond : Ef ≠ [] ∧ (c = [] ∨ (c.getLastD (0, 0)).2 ≤ i)
    · rw [if_pos hcond] at hgo
      rw [if_pos (decide_eq_true hcond)]
      refine wpAny_execs_cons (wpAny_Expr (MethodCall_ ?_) (by unfold interactive; rw [e.kind]; rfl) rfl)
      walk_at "n"
      refine Calls.getMethod_list_append (hca S) rfl rfl (callWith_method1 (args_cons (Tuple_ (wpAny_items_cons ?_))))
      walk_at "n"
      refine wpAny_items_cons (Subscript_ ?_)
      walk_at "n"
      walk_at "n"
      refine tail_pick hpk (S.get (List.mem_append_left _ m5)) hev hcond.1 (fun tq => ?_)
      refine wpAny_items_nil ?_
      refine newTuple_FS S (fun S => ?_) (by rw [sizeLine_eq]; simp)
      refine args_nil ?_
      refine append_FS (pre := _ :: F) S (by omega) fun h8 n8 S => ?_
      dsimp only
      refine wpAny_execs_nil (wpAny_execs_nil ?_)
      have S := S.sub (.cons_cons _ (List.sublist_append_right F _))
      have S := S.perm (List.Perm.swap _ _ _)
      exact ⟨_, (ca, lst _ n8) :: _ :: M, _, _, rfl, S, _, n8, _ :: M, c ++ [(i, pickV pk Ef)], _, _, rfl, hP.snoc (p := (i, pickV pk Ef)), rfl, by simp; omega, hgo⟩
    · rw [if_neg hcond] at hgo
      rw [if_neg (by rw [decide_eq_false hcond]; simp)]
      refine wpAny_execs_nil (wpAny_execs_nil ?_)
      exact ⟨_, (ca, lst cvs n) :: M, _, _, rfl, S.sub (List.sublist_append_right F _), cvs, n, M, c, _, _, rfl, hP, rfl, by omega, hgo⟩
  · rintro vs N h4 tk4 ⟨cvs, n, M, c, v4, v5, rfl, hP, rfl, hcl, hgo⟩ S
    rw [Nat.sub_self, cntGo] at hgo
    dsimp only
    refine wpAny_execs_cons (wpAny_Return_some ?_)
    walk_at "n"
    refine h _ _ _ _ _ _ S.ext S.led (.head _) ?_
    rw [hgo]
    exact hP.mono (by intro q hq; simp [hq])
end
abbrev lawNs : List Str := ["script", "rows", "pieces", "table", "pick", "counted", "prog", "told", "hit", "answer"]
section
variable {w : World} {A : Around} {s : Shared} {gh g : Heap} {mg mb : Str → Option Value} {env : Env} {E : Value → Shared → Prop}

theorem law_col {o : Obj} {fd : FuncData} {a1 a2 a3 a4 a5 a6 a8 : Stmt} {tg it : Expr} {cb : List Stmt} {pos : Pos} {qual : Str} {code : Value} {sa ra pa ta : Addr} {pv tv : List Value} {pn nt : Nat} {tM t' tk0 : Tok} {pt tx : Str} {K1 : List (Addr × Obj)} {pk : Int} {oC oT : Obj} {ovC : Option Value}
    {v5 v6 v7 v8 v9 : Option Value} {Q : Flow → Shared → Prop}
    (ho : (KK w.params).lookup 66 = some o) (hd : o.data = .func fd) (hb : fd.body = .stmts [a1, a2, a3, a4, a5, a6, .For tg it cb [] pos, a8]) (X : (KK w.params).In gh) (G : Gd gh mg mb) (B : Bg gh TT g) (hA : AOk A 10) (hU : A.units + 64 < cLine)
    (hC1 : CodeHd gh T1.c T1.P) (hC2 : CodeHd gh T2.c T2.P) (hHit : mg "_law_hit" = some (.ref 35)) (hSr : mg "search_reverse" = some (.ref 21)) (hFi : mg "_law_finder" = some (.ref 42))
    (hEn : mg "_law_ends" = some (.ref 54)) (hCt : mg "_law_counted" = some (.ref 61))
    (htxl : tx.length ≤ 20) (hptl : pt.length ≤ 50) (hpk : pk = 0 ∨ pk = -1)
    (e : EnvOk env fd.scope.names [("col", env.locals + 4), ("first", env.locals + 3), ("text", env.locals + 2), ("pattern", env.locals + 1)] qual code)
    (hoC : oC.data = .cell ovC) (hmT : (env.locals + 2, oT) ∈ K1) (hoT : oT.data = .cell (some (.str tx t'))) (hpa : (pa, lst pv pn) ∈ K1) (hps : StrsAre pv ((splitL pt.cps.toList).map ofL)) (hta : (ta, lst tv nt) ∈ K1) (hT : TabIs K1 tv (tabT pt tx))
    (S : FS TT g env.locals (amap lawNs [some (.ref sa), some (.ref ra), some (.ref pa), some (.ref ta), some (.int pk tk0), v5, v6, v7, v8, v9]) ((env.locals + 4, oC) :: K1) s.heap)
    (h : ∀ oC' ov' v4 v5 v6 v7 v8 v9 h' tk, oC'.data = .cell ov' → FS TT g env.locals (amap lawNs [some (.ref sa), some (.ref ra), some (.ref pa), some (.ref ta), v4, v5, v6, v7, v8, v9]) ((env.locals + 4, oC') :: K1) h' → Q .next { s with heap := h', toks := tk }) :
    wpAny (model PP w) A (execs cb env) Q E s := by
  cases ho
  cases hd
  cases hb
  have hsb := splitL_bounds2 pt.cps.toList
  rw [len_toList] at hsb
  have htabl : (tabT pt tx).length = tx.length + 1 := by simp [tabT]
  have htabb : ∀ l ∈ tabT pt tx, l.length ≤ 200 := fun l hl => by
    obtain ⟨f, hf, rfl⟩ := List.mem_map.mp hl
    refine Nat.le_trans (List.length_filter_le _ _) ?_
    rw [List.length_range']; omega
  refine wpAny_execs_cons (wpAny_Assign_Name (Call_ ?_))
  refine eGlob e (S.bg B) G rfl hCt ?_
  refine callG (ts := TT) (X 61 _ rfl) rfl (args_cons ?_)
  walk_at "n"
  refine args_cons ?_
  refine eCell e rfl rfl (S.get (.tail _ hmT)) hoT ?_
  refine args_cons ?_
  walk_at "n"
  refine args_nil ⟨S.bg B, wpAny_call (counted_call X G (S.bg B) (hA.less (j := 2) (by omega)) hEn hpk S.firm (.tail _ hpa) hps (by omega) (fun p hp => by have := hsb.2 p hp; omega) (by omega) fun ca cvs cn F h2 tk2 x2 l2 m2 hP => ?_)⟩
  have S := S.callN x2 l2
  have hans := fun col : Int => law2_ok (pt := pt) (tx := tx) hpk col
  generalize hCB : cntGo (fun f => endsGo tx.cps.toList (splitL pt.cps.toList) 0 [f]) pk (tx.length + 1) 0 [] = CB at *
  walk_at "s5"
  intro h3 S
  dsimp only [List.set] at S ⊢
  clear x2 l2
  refine wpAny_execs_cons (wpAny_Assign_Name (Call_ ?_))
  refine eGlob e (S.bg B) G rfl hFi ?_
  refine callG (ts := TT) (X 42 _ rfl) rfl (args_cons ?_)
  walk_at "n"
  refine args_cons ?_
  walk_at "n"
  refine args_nil ⟨S.bg B, wpAny_call (fi_call (D := K1) X G (S.bg B) (hA.less (j := 1) (by omega)) hC1 hC2 hHit hta hT (by omega) htabb hpk fun ap F2 h4 tk4 x4 l4 H4 => ?_)⟩
  have S := S.callN x4 l4
  have HP := H4 tx (by omega)
  walk_at "s6"
  intro h5 S
  dsimp only [List.set] at S ⊢
  clear x4 l4 H4
  have S := S.perm (perm_mid F2 F (env.locals + 4, oC) K1)
  have hP2 : PairsIn (F2 ++ F ++ K1) cvs CB := hP.mono (by intro q hq; simp [hq])
  have HP2 : IsProg PP w gh TT (F2 ++ F ++ K1) ap tx (nxtT (tabT pt tx) pk tx.length) := HP.mono (fun q hq => (List.mem_append.mp hq).elim (fun q1 => List.mem_append_left _ (List.mem_append_left _ q1)) fun q1 => List.mem_append_right _ q1)
  have hm2 : (ca, lst cvs cn) ∈ F2 ++ F ++ K1 := by simp [m2]
  have hmT2 : (env.locals + 2, oT) ∈ F2 ++ F ++ K1 := by simp [hmT]
  have hsub : K1.Sublist (F2 ++ F ++ K1) := List.sublist_append_right _ _
  generalize F2 ++ F ++ K1 = K2 at *
  clear HP hP
  refine wpAny_execs_cons (wpAny_For (Call_ ?_))
  refine eBuiltin e (S.bg B) G rfl G.range0 G.range1 (PyProof.Rows.callWith_type1 (args_cons (wpAny_UnaryOp (wpAny_Constant_int (neg_int ?_)))))
  refine args_cons (wpAny_BinOp ?_)
  walk_at "blen"
  refine eCell e rfl rfl (S.get (.tail _ hmT2)) hoT ?_
  refine args_nil (PyProof.Rows.len_str (by omega) ?_)
  refine wpAny_Constant_int (PyProof.Rows.add_int (args_nil ?_))
  refine range2_FSo S fun r ro rt ru rv h8 tk8 hro S => ?_
  have S := S.perm (List.Perm.swap _ _ _)
  refine range_cell (x := "col") (n := tx.length + 3) (N := []) (K₀ := (r, ro) :: K2) hA.handled (hro ▸ S.get (.tail _ (.head _))) (by omega) (by omega) (by omega) (by omega) (by split <;> omega) e rfl rfl S hoC
    (fun i vs N => N = [] ∧ ∃ v7 v8 v9, vs = [some (.ref sa), some (.ref ra), some (.ref pa), some (.ref ta), some (.int pk tk0), some (.ref ca), some (.ref ap), v7, v8, v9]) ⟨rfl, _, _, _, rfl⟩ ?_ ?_
  · rintro i tvv vs oc N p h9 tk9 E9 hi ⟨rfl, v7, v8, v9, rfl⟩ hoc S
    dsimp only [List.nil_append] at S
    generalize hcol : (-1 : Int) + (i : Int) = col at *
    have hcvl := hP2.1
    have hCBl : CB.length ≤ tx.length + 1 := by rw [← hCB]; have := cntGo_len (fun f => endsGo tx.cps.toList (splitL pt.cps.toList) 0 [f]) pk (tx.length + 1) 0 []; simpa using this
    refine wpAny_execs_cons ?_
    refine Assign_comp (iy := 7) (clos := [("col", env.locals + 4)]) (names' := [(".0", .local), ("pair", .local), ("col", .cell)]) (l := ca) (items := cvs) ?_ hA.handled
      (fun h L m N' S => isList_lst (S.get (List.mem_append_right _ (.tail _ (.tail _ (.tail _ hm2)))))) e S (fun Q' hq => ?_) ?_ rfl ?_ ?_ ?_ rfl rfl rfl (by decide) rfl
      (fun j ys => PairsIn K2 ys ((CB.take j).filter (okP col)) ∧ ys.length ≤ j ∧ j ≤ 101) ⟨⟨rfl, fun i hi => by simp at hi⟩, Nat.le_refl _, by omega⟩ (fun j ys hh => by have := hh.2; omega) ?_ ?_
    · unfold swapsWith Env.blockKind
      dsimp only
      rw [e.kind, e.kindOf (x := "told") rfl]; rfl
    · walk_at "n"; exact hq
    · unfold closureFor cellOf
      rw [e.cells]
      rfl
    · unfold Env.kindOf
      rw [e.kind, e.names]; rfl
    · decide +kernel
    · decide +kernel
    · intro cenv ec j v ys N₁ N₂ h10 tk10 E10 hv ⟨hJ1, hJ2, hJ3⟩ S
      have hjl : j < cvs.length := (List.getElem?_eq_some_iff.mp hv).1
      obtain ⟨aj, t1, t2, hvj, hmj⟩ := hP2.2 j (by omega)
      rw [hv] at hvj
      cases hvj
      have hcj : CB[j]? = some (CB.getD j (0, 0)) := by
        rw [List.getD_eq_getElem?_getD, List.getElem?_eq_getElem (show j < CB.length by omega)]; rfl
      have htk : CB.take (j + 1) = CB.take j ++ [CB.getD j (0, 0)] := by rw [List.take_add_one, hcj]; rfl
      generalize CB.getD j (0, 0) = pj at *
      have hpj : ∀ {L m N' h}, FS TT g L m (N' ++ (N₂ ++ (env.locals + 4, oc) :: p :: (r, ro) :: K2)) h → h.get? aj = some (tpl [.int (pj.1 : Nat) t1, .int (pj.2 : Nat) t2] 0) ∧ h.get? (env.locals + 4) = some oc := fun S => ⟨S.get (List.mem_append_right _ (List.mem_append_right _ (.tail _ (.tail _ (.tail _ hmj))))), S.get (List.mem_append_right _ (List.mem_append_right _ (.head _)))⟩
      refine wpAny_tests_one (isTrue_and (wpAny_isTrue_Compare1 (Subscript_ ?_)))
      walk_at "n"
      refine wpAny_Constant_int ?_
      refine item_tupleL (j := 0) (isTup_tpl (hpj S).1) (by decide) (by decide) rfl rfl ?_
      refine eCell ec rfl rfl (hpj S).2 hoc ?_
      refine PyProof.Rows.lt_int (wpAny_truthy_bool ?_)
      have skip : ∀ {tkx : Nat}, okP col pj = false → ∃ N₁' vx h4 tk4, ({ s with heap := h10, toks := tkx } : Shared) = { s with heap := h4, toks := tk4 } ∧ FS TT g cenv.locals (amap ["pair"] [vx]) (N₁' ++ (N₂ ++ (env.locals + 4, oc) :: p :: (r, ro) :: K2)) h4 ∧ PairsIn K2 ys ((CB.take (j + 1)).filter (okP col)) ∧ ys.length ≤ j + 1 ∧ j + 1 ≤ 101 := fun hno =>
        ⟨N₁, _, h10, _, rfl, S, by rw [htk, List.filter_append, List.filter_cons_of_neg (by rw [hno]; simp), List.filter_nil, List.append_nil]; exact hJ1, by omega, by omega⟩
      have hok : okP col pj = (decide ((pj.1 : Int) < col) && decide ((pj.2 : Int) ≤ col)) := rfl
      by_cases c1 : (pj.1 : Int) < col
      · rw [if_pos (by simpa using c1)]
        refine isTrue_and (wpAny_isTrue_Compare1 (Subscript_ ?_))
        walk_at "n"
        refine wpAny_Constant_int ?_
        refine item_tupleL (j := 1) (isTup_tpl (hpj S).1) (by decide) (by decide) rfl rfl ?_
        refine eCell ec rfl rfl (hpj S).2 hoc ?_
        refine PyProof.Rows.le_int (wpAny_truthy_bool ?_)
        by_cases c2 : (pj.2 : Int) ≤ col
        · rw [if_pos (by simpa using c2)]
          refine isTrue_and_nil ?_
          rw [if_pos rfl]
          walk_at "n"
          refine ⟨N₁, _, _, _, rfl, S, ?_, by simp; omega, by omega⟩
          rw [htk, List.filter_append, List.filter_cons_of_pos (by rw [hok, decide_eq_true c1, decide_eq_true c2]; rfl), List.filter_nil]
          exact hJ1.snocR hmj
        · rw [if_neg (by simpa using c2), if_neg (by simp)]
          exact skip (by rw [hok, decide_eq_false c2, Bool.and_false])
      · rw [if_neg (by simpa using c1), if_neg (by simp)]
        exact skip (by rw [hok, decide_eq_false c1, Bool.false_and])
    intro Dt ys nD h10 tk10 ⟨hJ1, hJ2, _⟩ S
    dsimp only [List.set] at S ⊢
    rw [List.take_of_length_le (by omega)] at hJ1
    have hans1 := hans col
    generalize hTB : CB.filter (okP col) = TB at *
    refine wpAny_execs_cons (wpAny_Assign_Name (Call_ ?_))
    refine eGlob e (S.bg B) G rfl hSr ?_
    refine callG (ts := TT) (X 21 _ rfl) rfl (args_cons ?_)
    walk_at "n"
    refine args_cons ?_
    refine eCell e rfl rfl (S.get (.tail _ (.tail _ (.tail _ (.tail _ hmT2))))) hoT ?_
    refine args_cons ?_
    refine eCell e rfl rfl (S.get (.tail _ (.head _))) hoc ?_
    refine args_nil ⟨S.bg B, wpAny_call (sr_call (len := tx.length) (D := K2) X G (S.bg B) (hA.less (j := 3) (by omega)) HP2 (S.firm.mono (fun q hq => .tail _ (.tail _ (.tail _ (.tail _ hq))))) (fun st i j hh => nxtT_bound hpk hh) (by omega) fun fv F5 h11 tk11 x11 l11 Hf => ?_)⟩
    have S := S.callN x11 l11
    clear x11 l11
    dsimp only
    walk_at "s8"
    intro h12 S
    dsimp only [List.set] at S ⊢
    rw [hans1] at Hf
    -- the answer, and what is told
    cases hTL : TB.getLast? with
    | none =>
      rw [hTL] at Hf
      obtain rfl : fv = .none := Hf
      have hTn : TB = [] := by simpa using hTL
      have hyn : ys = [] := List.eq_nil_of_length_eq_zero (by rw [hJ1.1, hTn]; rfl)
      refine wpAny_execs_cons (wpAny_Assign_Name (IfExp_ (wpAny_isTrue_Compare1 ?_)))
      walk_at "n"
      refine wpAny_Constant_none (is_none_none (wpAny_truthy_bool ?_))
      rw [if_pos rfl]
      refine wpAny_Constant_none ?_
      walk_at "s9"
      intro h13 S
      dsimp only [List.set] at S ⊢
      refine wpAny_execs_cons (wpAny_If (wpAny_isTrue_Compare1 ?_))
      walk_at "n"
      refine IfExp_ (wpAny_isTrue_value ?_)
      walk_at "n"
      refine wpAny_truthy_list (isList_lst (S.get (List.mem_append_right _ (.head _)))) (by simp; omega) ?_
      rw [if_neg (by rw [hyn]; simp)]
      refine wpAny_Constant_none (PySem.EqNone.ne_none_none (wpAny_truthy_bool ?_))
      rw [if_neg (by simp)]
      refine wpAny_execs_nil (wpAny_execs_nil ?_)
      exact ⟨_, [], oc, _, _, _, rfl, hoc, S.sub ((List.Sublist.cons _ (List.Sublist.refl _)).trans (List.sublist_append_right F5 _)), rfl, _, _, _, rfl⟩
    | some mm =>
      rw [hTL] at Hf
      obtain ⟨ah, rfl, Hh⟩ := Hf
      have hTn : TB ≠ [] := by rintro rfl; cases hTL
      have hlastD : TB.getLastD (0, 0) = mm := by rw [List.getLastD_eq_getLast?, hTL]; rfl
      obtain ⟨al, u1, u2, hlast, hmem⟩ := hJ1.last hTn
      rw [hlastD] at hmem
      refine wpAny_execs_cons (wpAny_Assign_Name (IfExp_ (wpAny_isTrue_Compare1 ?_)))
      walk_at "n"
      refine wpAny_Constant_none (is_none_ne (by intro q; cases q) (wpAny_truthy_bool ?_))
      rw [if_neg (by simp)]
      refine span_call (k := 9) hA (fun Q' hq => ?_) Hh (S.firm.mono (by simp)) (S.bg B) (fun a3 tv1 tv2 F3 h13 tk13 x13 l13 m13 => ?_)
      · walk_at "n"; exact hq
      have S := S.callN x13 l13
      clear x13 l13
      walk_at "s9"
      intro h14 S
      dsimp only [List.set] at S ⊢
      refine wpAny_execs_cons (wpAny_If (wpAny_isTrue_Compare1 ?_))
      walk_at "n"
      refine IfExp_ (wpAny_isTrue_value ?_)
      walk_at "n"
      have hDt : ∀ {L m h}, FS TT g L m (F3 ++ (F5 ++ (Dt, lst ys nD) :: (env.locals + 4, oc) :: p :: (r, ro) :: K2)) h → h.get? Dt = some (lst ys nD) ∧ h.get? al = some (tpl [.int (mm.1 : Nat) u1, .int (mm.2 : Nat) u2] 0) ∧ h.get? a3 = some (tpl [.int (mm.1 : Nat) tv1, .int (mm.2 : Nat) tv2] 0) := fun S =>
        ⟨S.get (List.mem_append_right _ (List.mem_append_right _ (.head _))), S.get (List.mem_append_right _ (List.mem_append_right _ (.tail _ (.tail _ (.tail _ (.tail _ hmem)))))), S.get (List.mem_append_left _ m13)⟩
      refine wpAny_truthy_list (isList_lst (hDt S).1) (by simp; omega) ?_
      rw [if_pos (by
        cases ys with
        | nil => cases hlast
        | cons => rfl)]
      refine Subscript_ ?_
      walk_at "n"
      refine wpAny_UnaryOp (wpAny_Constant_int (neg_int ?_))
      refine item_last (hDt S).1 hlast ?_
      refine ne_pair (hDt S).2.2 (hDt S).2.1 hU (wpAny_truthy_bool ?_)
      rw [if_neg (by simp)]
      refine wpAny_execs_nil (wpAny_execs_nil ?_)
      exact ⟨_, [], oc, _, _, _, rfl, hoc, S.sub (((List.Sublist.cons _ (List.Sublist.refl _)).trans (List.sublist_append_right F5 _)).trans (List.sublist_append_right F3 _)), rfl, _, _, _, rfl⟩
  · rintro vs oc ov N h9 tk9 ⟨rfl, v7, v8, v9, rfl⟩ hoc S
    dsimp only
    refine wpAny_execs_nil ?_
    exact h _ _ _ _ _ _ _ _ _ _ hoc (S.sub (.cons_cons _ (.cons _ hsub)))
end
theorem join_le {k : Nat} : ∀ (zs : List Str), (∀ z ∈ zs, z.length ≤ k) → (Txt.join ("" : Str) zs).length ≤ k * zs.length := by
  intro zs h
  have e : Txt.join ("" : Str) zs = Str.join Str.empty zs := by unfold Txt.join; exact StrLaws.glued_eq_join _ _
  rw [e]
  induction zs with
  | nil => exact Nat.zero_le _
  | cons c r ih =>
    have ih := ih (fun z hz => h z (.tail _ hz)) (by unfold Txt.join; exact StrLaws.glued_eq_join _ _)
    have hc := h c (.head _)
    cases r with
    | nil => show c.length ≤ k * 1; omega
    | cons d r =>
      have : Str.join Str.empty (c :: d :: r) = c ++ Str.empty ++ Str.join Str.empty (d :: r) := rfl
      rw [this, Str.append_empty, Str.length_append]
      rw [List.length_cons (as := d :: r), Nat.mul_add]; omega
theorem sum_le {k : Nat} : ∀ (zs : List Str), (∀ z ∈ zs, z.length ≤ k) → (zs.map (·.length)).sum ≤ k * zs.length
  | [], _ => Nat.zero_le _
  | c :: r, h => by
    have ih := sum_le r fun z hz => h z (.tail _ hz)
    have hc := h c (.head _)
    rw [List.map_cons, List.sum_cons, List.length_cons, Nat.mul_add]; omega
theorem perm_A {α : Type} (r t c f x p : α) (F : List α) : (r :: t :: (F ++ [c, f, x, p])).Perm (f :: ([t] ++ (r :: c :: x :: p :: F))) := by
  have h1 : (F ++ [c, f, x, p]).Perm ([c, f, x, p] ++ F) := List.perm_append_comm
  have h2 : (r :: t :: (F ++ [c, f, x, p])).Perm ([r, t, c] ++ f :: (x :: p :: F)) := (h1.cons t).cons r
  refine h2.trans (List.perm_middle.trans ?_)
  exact (List.Perm.swap _ _ _).cons f
theorem perm_B {α : Type} (u f t r c : α) (M K : List α) : (u :: f :: t :: (M ++ r :: c :: K)).Perm ([c] ++ (u :: f :: t :: (M ++ r :: K))) := by
  have := @List.perm_middle _ c (u :: f :: t :: (M ++ [r])) K
  simpa using this
theorem TabIs.snoc {M : List (Addr × Obj)} {tv : List Value} {T : List (List Nat)} {D : Addr} {ys : List Value} {n : Nat} {l : List Nat} (h : TabIs M tv T) (hy : IntsAre ys (l.map Int.ofNat)) : TabIs ((D, lst ys n) :: M) (tv ++ [.ref D]) (T ++ [l]) := by
  refine ⟨by simp [h.1], fun i hi => ?_⟩
  rw [List.length_append, List.length_singleton] at hi
  by_cases hl : i < T.length
  · obtain ⟨la, n', ivs, e, m, q⟩ := h.2 i hl
    refine ⟨la, n', ivs, ?_, .tail _ m, ?_⟩
    · rw [List.getElem?_append_left (by rw [h.1]; exact hl)]; exact e
    · rw [List.getD_eq_getElem?_getD, List.getElem?_append_left hl, ← List.getD_eq_getElem?_getD]; exact q
  · obtain rfl : i = T.length := by omega
    refine ⟨D, n, ys, ?_, .head _, ?_⟩
    · rw [← h.1]; simp
    · have : (T ++ [l]).getD T.length [] = l := by simp [List.getD_eq_getElem?_getD]
      rw [this]; exact hy
section
variable {w : World} {A : Around} {s : Shared} {gh g : Heap} {mg mb : Str → Option Value} {env : Env} {E : Value → Shared → Prop}

theorem law_body {o : Obj} {fd : FuncData} {body : List Stmt} {qual : Str} {code : Value} {sa : Addr} {vals : List Value} {ns : List Int} {tM : Tok} {oC oF oT oP : Obj} {ovC ovF ovT ovP : Option Value} {Q : Flow → Shared → Prop}
    (ho : (KK w.params).lookup 66 = some o) (hd : o.data = .func fd) (hb : fd.body = .stmts body) (X : (KK w.params).In gh) (G : Gd gh mg mb) (B : Bg gh TT g) (hA : AOk A 10) (hU : A.units + 64 < cLine) (hC1 : CodeHd gh T1.c T1.P) (hC2 : CodeHd gh T2.c T2.P)
    (hM : mg "ELLIPSIS_MARKER" = some (.str dots tM)) (hHit : mg "_law_hit" = some (.ref 35)) (hEm : mg "_ellipsis_match" = some (.ref 28)) (hSr : mg "search_reverse" = some (.ref 21)) (hFi : mg "_law_finder" = some (.ref 42))
    (hPc : mg "_law_pieces" = some (.ref 49)) (hEn : mg "_law_ends" = some (.ref 54)) (hCt : mg "_law_counted" = some (.ref 61))
    (hl : gh.IsList sa vals.toArray) (hI : IntsAre vals ns) (hn : ns.length ≤ 63)
    (e : EnvOk env fd.scope.names [("col", env.locals + 4), ("first", env.locals + 3), ("text", env.locals + 2), ("pattern", env.locals + 1)] qual code)
    (dC : oC.data = .cell ovC) (dF : oF.data = .cell ovF) (dT : oT.data = .cell ovT) (dP : oP.data = .cell ovP)
    (S : FS TT g env.locals (amap lawNs [some (.ref sa), none, none, none, none, none, none, none, none, none]) [(env.locals + 4, oC), (env.locals + 3, oF), (env.locals + 2, oT), (env.locals + 1, oP)] s.heap)
    (h : ∀ h' tk, Ext TT g h' → Q (.ret (.bool true)) { s with heap := h', toks := tk }) : wpAny (model PP w) A (execs body env) Q E s := by
  cases ho
  cases hd
  cases hb
  have hsl : ∀ {m N h}, FS TT g env.locals m N h → h.IsList sa vals.toArray := fun S => hl.at fun o e => (S.bg B).st _ _ e
  have hvl := hI.length
  refine cut_next (fun s' => ∃ ra vs' ns' nr h tk, s' = { s with heap := h, toks := tk } ∧ FS TT g env.locals (amap lawNs [some (.ref sa), some (.ref ra), none, none, none, none, none, none, none, none]) [(ra, lst vs' nr), (env.locals + 4, oC), (env.locals + 3, oF), (env.locals + 2, oT), (env.locals + 1, oP)] h ∧ IntsAre vs' ns' ∧ ns'.length ≤ 8) (fun E1 => ?_) ?_
  · refine wpAny_Assign_Name (BoolOp_or (Subscript_ ?_))
    walk_at "n"
    refine wpAny_Slice (evalPart_none_step (evalPart_some_step (wpAny_Constant_int (evalPart_none_step ?_))))
    refine cut_list S (hsl S) .none (.int _ _) .none (by simp) (by simp; omega) fun D h2 S => ?_
    have hI2 : IntsAre (slicePick vals.toArray none (some 8) none).toList (ns.take 8) := slice_ints_uptoW hI (y := 8) (by decide)
    have hl2 := hI2.length
    generalize (slicePick vals.toArray none (some 8) none).toList = vs2 at *
    have hlen : (ns.take 8).length ≤ 8 := by simp; omega
    refine wpAny_truthy_list (isList_lst (S.get (.head _))) (by simp; omega) ?_
    by_cases hz : (ns.take 8).length = 0
    · have : vs2 = [] := List.eq_nil_of_length_eq_zero (by omega)
      subst this
      rw [if_neg (by simp)]
      refine BoolOp_one (List_ (wpAny_items_cons (wpAny_Constant_int (wpAny_items_cons (wpAny_Constant_int (wpAny_items_cons (wpAny_Constant_int (wpAny_items_nil ?_))))))))
      refine newList_FS S (fun S => ?_) (by rw [sizeLine_eq]; simp)
      walk_at "s1"
      intro h3 S
      dsimp only [List.set] at S ⊢
      exact ⟨_, _, [5, 1, 7], _, _, _, rfl, S.sub (.cons_cons _ (.cons _ (List.Sublist.refl _))), .cons _ _ (.cons _ _ (.cons _ _ .nil)), by decide⟩
    · rw [if_pos (by cases vs2 with | nil => exact absurd hl2.symm hz | cons => rfl)]
      walk_at "s1"
      intro h3 S
      dsimp only [List.set] at S ⊢
      exact ⟨_, _, ns.take 8, _, _, _, rfl, S, hI2, hlen⟩
  clear S
  rintro s' ⟨ra, vs', ns', nr, h2, tk2, rfl, S, hI', hn8⟩
  clear hsl hvl hI hl
  have hvl := hI'.length
  -- pattern
  refine cut_next (fun s' => ∃ pt tp oP' h tk, s' = { s with heap := h, toks := tk } ∧ pt.length ≤ 12 ∧ oP'.data = .cell (some (.str pt tp)) ∧ FS TT g env.locals (amap lawNs [some (.ref sa), some (.ref ra), none, none, none, none, none, none, none, none]) [(ra, lst vs' nr), (env.locals + 4, oC), (env.locals + 3, oF), (env.locals + 2, oT), (env.locals + 1, oP')] h) (fun E1 => ?_) ?_
  · refine wpAny_Assign_Name (MethodCall_ (wpAny_Constant_str ?_))
    refine GM.join (callWith_method1 (args_cons ?_))
    refine ListComp_ (clos := []) (names' := [(".0", .local), ("number", .local)]) rfl rfl rfl (by decide +kernel) (Subscript_ ?_)
    walk_at "n"
    refine wpAny_Slice (evalPart_none_step (evalPart_some_step (wpAny_Constant_int (evalPart_none_step ?_))))
    refine cut_list S (isList_lst (S.get (.head _))) .none (.int _ _) .none (by simp) (by simp; omega) fun D h3 S => ?_
    have hI2 : IntsAre (slicePick vs'.toArray none (some 4) none).toList (ns'.take 4) := slice_ints_uptoW hI' (y := 4) (by decide)
    have hl2 := hI2.length
    generalize (slicePick vs'.toArray none (some 4) none).toList = vs2 at *
    have hlen : (ns'.take 4).length ≤ 4 := by simp; omega
    refine comp_list (items := vs2) hA.handled (fun h L m N' S => isList_lst (S.get (List.mem_append_right _ (.head _)))) e S (by decide +kernel) rfl rfl
      (fun i ys => ∃ zs, StrsAre ys zs ∧ zs.length ≤ i ∧ (∀ z ∈ zs, z.length ≤ 3) ∧ ys.length ≤ i ∧ i ≤ 4) ⟨[], .nil, Nat.le_refl _, (fun z hz => by cases hz), Nat.le_refl _, by omega⟩ (fun i ys hh => by obtain ⟨_, hh⟩ := hh; have := hh.2; omega) ?_ ?_
    · intro cenv ec i v ys N₁ N₂ h tk E' hv ⟨zs, hJ1, hJ2, hJ3, hJ4, hJ5⟩ S
      obtain ⟨n0, t0, rfl, hn0⟩ := hI2.at i v hv
      have hi : i < (ns'.take 4).length := (List.getElem?_eq_some_iff.mp hn0).1
      refine wpAny_tests_nil ?_
      simp only [if_true]
      refine Subscript_ (Tuple_ ?_)
      refine wpAny_items_cons (wpAny_Constant_str (wpAny_items_cons (wpAny_Constant_str (wpAny_items_cons (wpAny_Constant_str (wpAny_items_cons (wpAny_Constant_str (wpAny_items_cons (wpAny_Constant_str (wpAny_items_nil ?_))))))))))
      refine newTuple_FS S (fun S => ?_) (by rw [sizeLine_eq]; simp)
      refine wpAny_BinOp ?_
      dsimp only
      walk_at "n"
      refine wpAny_Constant_int (PyProof.Rows.mod_int (by decide) ?_)
      have hw0 : 0 ≤ n0.fmod 5 := Int.fmod_nonneg_of_pos _ (by decide)
      have hw5 : n0.fmod 5 < 5 := Int.fmod_lt_of_pos _ (by decide)
      generalize n0.fmod 5 = wi at *
      have hitem : ∃ wd tw, ([Value.str "a" tk, .str "..." (tk + 1), .str "b" (tk + 1 + 1), .str "..." (tk + 1 + 1 + 1), .str "." (tk + 1 + 1 + 1 + 1)] : List Value)[wi.toNat]? = some (.str wd tw) ∧ wd.length ≤ 3 := by
        rcases (show wi.toNat = 0 ∨ wi.toNat = 1 ∨ wi.toNat = 2 ∨ wi.toNat = 3 ∨ wi.toNat = 4 by omega) with q | q | q | q | q <;> rw [q] <;> exact ⟨_, _, rfl, by decide +kernel⟩
      obtain ⟨wd, tw, hwd, hwl⟩ := hitem
      refine item_tupleT (j := wi.toNat) (x := .str wd tw) (isTup_tpl (S.get (.head _))) (by omega) (by omega) (by simp [seqIndex?]; omega) hwd ?_
      exact ⟨_ :: N₁, _, _, _, rfl, S, zs ++ [wd], strs_snoc _ _ hJ1, by simp; omega, (fun z hz => by
        rcases List.mem_append.mp hz with q | q
        · exact hJ3 z q
        · rw [List.mem_singleton.mp q]; exact hwl), by simp; omega, by omega⟩
    intro D2 ys nD h4 tk4 ⟨zs, hJ1, hJ2, hJ3, _⟩ S
    have hzl : zs.length ≤ 4 := by omega
    have hjl := join_le zs hJ3
    have hsl := sum_le zs hJ3
    refine args_nil (join_list (isList_lst (S.get (.head _))) (by simpa using hJ1) ?_ (fun t' k' => ?_))
    · have : ("" : Str).length = 0 := by decide
      rw [this]; omega
    refine sCell (pre := [_, _, (ra, lst vs' nr), (env.locals + 4, oC), (env.locals + 3, oF), (env.locals + 2, oT)]) e rfl rfl S dP fun h5 oP5 dP5 S => ?_
    exact ⟨_, _, oP5, _, _, rfl, by omega, dP5, S.sub (.cons _ (.cons _ (List.Sublist.refl _)))⟩
  clear S
  rintro s' ⟨pt, tp, oP', h3, tk3, rfl, hptl, dP', S⟩
  -- text
  refine cut_next (fun s' => ∃ tx tt oT' h tk, s' = { s with heap := h, toks := tk } ∧ tx.length ≤ 10 ∧ oT'.data = .cell (some (.str tx tt)) ∧ FS TT g env.locals (amap lawNs [some (.ref sa), some (.ref ra), none, none, none, none, none, none, none, none]) [(env.locals + 4, oC), (env.locals + 3, oF), (env.locals + 2, oT'), (env.locals + 1, oP')] h) (fun E1 => ?_) ?_
  · refine wpAny_Assign_Name (wpAny_BinOp (MethodCall_ (wpAny_Constant_str ?_)))
    refine GM.join (callWith_method1 (args_cons ?_))
    refine ListComp_ (clos := []) (names' := [(".0", .local), ("number", .local)]) rfl rfl rfl (by decide +kernel) ?_
    walk_at "n"
    refine comp_list (items := vs') hA.handled (fun h L m N' S => isList_lst (S.get (List.mem_append_right _ (.head _)))) e S (by decide +kernel) rfl rfl
      (fun i ys => ∃ zs, StrsAre ys zs ∧ zs.length ≤ i ∧ (∀ z ∈ zs, z.length ≤ 1) ∧ ys.length ≤ i ∧ i ≤ 8) ⟨[], .nil, Nat.le_refl _, (fun z hz => by cases hz), Nat.le_refl _, by omega⟩ (fun i ys hh => by obtain ⟨_, hh⟩ := hh; have := hh.2; omega) ?_ ?_
    · intro cenv ec i v ys N₁ N₂ h tk E' hv ⟨zs, hJ1, hJ2, hJ3, hJ4, hJ5⟩ S
      obtain ⟨n0, t0, rfl, hn0⟩ := hI'.at i v hv
      have hi : i < ns'.length := (List.getElem?_eq_some_iff.mp hn0).1
      refine wpAny_tests_nil ?_
      simp only [if_true]
      refine Subscript_ (wpAny_Constant_str (wpAny_BinOp (wpAny_BinOp ?_)))
      walk_at "n"
      refine wpAny_Constant_int (floordiv_int (by decide) ?_)
      refine wpAny_Constant_int (PyProof.Rows.mod_int (by decide) ?_)
      have hw0 : 0 ≤ (n0.fdiv 5).fmod 3 := Int.fmod_nonneg_of_pos _ (by decide)
      have hw3 : (n0.fdiv 5).fmod 3 < 3 := Int.fmod_lt_of_pos _ (by decide)
      generalize (n0.fdiv 5).fmod 3 = wi at *
      have hab : ("ba." : Str).length = 3 := by decide
      refine item_str (fits_small (by omega) (by omega)) (by omega) (by omega) (fun _ => ?_)
      obtain ⟨c, hc⟩ : ∃ c, ("ba." : Str).cps.toList[wi.toNat]? = some c := by
        rcases (show wi.toNat = 0 ∨ wi.toNat = 1 ∨ wi.toNat = 2 by omega) with q | q | q <;> rw [q]
        · exact ⟨98, by decide +kernel⟩
        · exact ⟨97, by decide +kernel⟩
        · exact ⟨46, by decide +kernel⟩
      have hit : Txt.item ("ba." : Str) wi = ofL [c] := by
        have := itemL hc
        rwa [Int.toNat_of_nonneg hw0] at this
      rw [hit]
      exact ⟨N₁, _, _, _, rfl, S, zs ++ [ofL [c]], strs_snoc _ _ hJ1, by simp; omega, (fun z hz => by
        rcases List.mem_append.mp hz with q | q
        · exact hJ3 z q
        · rw [List.mem_singleton.mp q, ofL_length]; exact Nat.le_refl _), by simp; omega, by omega⟩
    intro D2 ys nD h4 tk4 ⟨zs, hJ1, hJ2, hJ3, _⟩ S
    have hzl : zs.length ≤ 8 := by omega
    have hjl := join_le zs hJ3
    have hsl := sum_le zs hJ3
    refine args_nil (join_list (isList_lst (S.get (.head _))) (by simpa using hJ1) ?_ (fun t' k' => ?_))
    · have : ("" : Str).length = 0 := by decide
      rw [this]; omega
    have hab2 : ("ab" : Str).length = 2 := by decide
    refine wpAny_Constant_str ?_
    refine PyProof.Rows.add_str (fun t7 tk7 => ?_) (by rw [sizeLine_eq]; omega)
    refine sCell (pre := [_, (ra, lst vs' nr), (env.locals + 4, oC), (env.locals + 3, oF)]) e rfl rfl S dT fun h5 oT5 dT5 S => ?_
    exact ⟨_, _, oT5, _, _, rfl, by rw [Str.length_append]; omega, dT5, S.sub (.cons _ (.cons _ (List.Sublist.refl _)))⟩
  clear S
  rintro s' ⟨tx, tt, oT', h4, tk4, rfl, htxl, dT', S⟩
  -- pieces
  refine wpAny_execs_cons (wpAny_Assign_Name (Call_ ?_))
  refine eGlob e (S.bg B) G rfl hPc ?_
  refine callG (ts := TT) (X 49 _ rfl) rfl (args_cons ?_)
  refine eCell e rfl rfl (S.get (.tail _ (.tail _ (.tail _ (.head _))))) dP' ?_
  refine args_nil ⟨S.bg B, wpAny_call (pieces_call X G (S.bg B) (hA.less (j := 1) (by omega)) (by omega) fun pa pv pn F h5 tk5 x5 l5 m5 hps => ?_)⟩
  have S := S.callN x5 l5
  walk_at "s2"
  intro h6 S
  dsimp only [List.set] at S ⊢
  clear x5 l5
  refine wpAny_execs_cons (wpAny_Assign_Name (List_ (wpAny_items_nil ?_)))
  refine newList_FS S (fun S => ?_) (by rw [sizeLine_eq]; simp)
  walk_at "s3"
  intro h7 S
  dsimp only [List.set] at S ⊢
  generalize h6.objs.size = ta at *
  refine wpAny_execs_cons (wpAny_For (Call_ ?_))
  refine eBuiltin e (S.bg B) G rfl G.range0 G.range1 (PyProof.Rows.callWith_type1 (args_cons (wpAny_BinOp ?_)))
  walk_at "blen"
  refine eCell e rfl rfl (S.get (.tail _ (List.mem_append_right _ (.tail _ (.tail _ (.head _)))))) dT' ?_
  refine args_nil (PyProof.Rows.len_str (by omega) ?_)
  refine wpAny_Constant_int (PyProof.Rows.add_int (args_nil ?_))
  refine range1_FSo S fun r ro rt ru rv h8 tk8 hro S => ?_
  have S := S.perm (perm_A _ _ _ _ _ _ F)
  refine range_cell (x := "first") (n := tx.length + 1) (K₀ := (r, ro) :: (env.locals + 4, oC) :: (env.locals + 2, oT') :: (env.locals + 1, oP') :: F) hA.handled (hro ▸ S.get (.tail _ (List.mem_append_right _ (.head _)))) (by omega) (by omega) (by omega) (by omega) (by split <;> omega) e rfl rfl S dF
    (fun i vs N => ∃ tv n M, N = (ta, lst tv n) :: M ∧ TabIs M tv ((tabT pt tx).take i) ∧ i ≤ 11 ∧ vs = [some (.ref sa), some (.ref ra), some (.ref pa), some (.ref ta), none, none, none, none, none, none]) ⟨[], _, [], rfl, ⟨rfl, fun i hi => by simp at hi⟩, by omega, rfl⟩ ?_ ?_
  · rintro i tvv vs oc N p h9 tk9 E9 hi ⟨tv, n, M, rfl, hT, hi11, rfl⟩ hoc S
    rw [Int.zero_add] at hoc
    have htvl : tv.length ≤ 11 := by have := hT.1; rw [List.length_take] at this; omega
    have hcells : ∀ {L m N' h}, FS TT g L m (N' ++ ((env.locals + 3, oc) :: ((ta, lst tv n) :: M ++ p :: (r, ro) :: (env.locals + 4, oC) :: (env.locals + 2, oT') :: (env.locals + 1, oP') :: F))) h → h.get? (env.locals + 3) = some oc ∧ h.get? (env.locals + 2) = some oT' ∧ h.get? (env.locals + 1) = some oP' := fun S =>
      ⟨S.get (List.mem_append_right _ (.head _)), S.get (List.mem_append_right _ (.tail _ (List.mem_append_right _ (.tail _ (.tail _ (.tail _ (.head _))))))), S.get (List.mem_append_right _ (.tail _ (List.mem_append_right _ (.tail _ (.tail _ (.tail _ (.tail _ (.head _))))))))⟩
    refine wpAny_execs_cons (wpAny_Expr (MethodCall_ ?_) (by unfold interactive; rw [e.kind]; rfl) rfl)
    walk_at "n"
    refine Calls.getMethod_list_append (S.get (.tail _ (.head _))) rfl rfl (callWith_method1 (args_cons ?_))
    refine ListComp_ (clos := [("text", env.locals + 2), ("pattern", env.locals + 1), ("first", env.locals + 3)]) (names' := [(".0", .local), ("behind", .local), ("_ellipsis_match", .globalImplicit), ("first", .cell), ("pattern", .cell), ("text", .cell)]) ?_ rfl ?_ ?_ ?_
    · unfold closureFor cellOf
      rw [e.cells]
      rfl
    · unfold Env.kindOf
      rw [e.kind, e.names]; rfl
    · decide +kernel
    refine Call_ ?_
    refine eBuiltin e (S.bg B) G rfl G.range0 G.range1 (PyProof.Rows.callWith_type1 (args_cons ?_))
    refine eCell e rfl rfl (hcells (N' := []) S).1 hoc ?_
    refine args_cons (wpAny_BinOp ?_)
    walk_at "blen"
    refine eCell e rfl rfl (hcells (N' := []) S).2.1 dT' ?_
    refine args_nil (PyProof.Rows.len_str (by omega) ?_)
    refine wpAny_Constant_int (PyProof.Rows.add_int (args_nil ?_))
    refine range2_FSo S fun r2 ro2 rt2 ru2 rv2 h10 tk10 hro2 S => ?_
    refine comp_range (n := tx.length + 1 - i) hA.handled (hro2 ▸ S.get (.head _)) (by omega) (by omega) (by omega) (by omega) (by split <;> omega) e S ?_ rfl rfl
      (fun j ys => IntsAre ys (((List.range' i j).filter fun b => emB pt (ofL ((tx.cps.toList.take b).drop i))).map Int.ofNat) ∧ ys.length ≤ j ∧ j ≤ 11) ⟨.nil, Nat.le_refl _, by omega⟩ (fun j ys hh => by have := hh.2; omega) ?_ ?_
    · decide +kernel
    · intro cenv ec j tb ys N₁ N₂ h11 tk11 E11 hj ⟨hJ1, hJ2, hJ3⟩ S
      have hc2 : ∀ {L m N' h}, FS TT g L m (N' ++ (N₂ ++ (r2, ro2) :: ((env.locals + 3, oc) :: ((ta, lst tv n) :: M ++ p :: (r, ro) :: (env.locals + 4, oC) :: (env.locals + 2, oT') :: (env.locals + 1, oP') :: F)))) h → h.get? (env.locals + 3) = some oc ∧ h.get? (env.locals + 2) = some oT' ∧ h.get? (env.locals + 1) = some oP' := fun {L m N' h} S =>
        hcells (N' := N' ++ (N₂ ++ [(r2, ro2)])) (by simpa using S)
      refine wpAny_tests_one (wpAny_isTrue_value (Call_ ?_))
      refine eGlob ec (S.bg B) G rfl hEm ?_
      refine callG (ts := TT) (X 28 _ rfl) rfl (args_cons ?_)
      refine eCell ec rfl rfl (hc2 S).2.2 dP' ?_
      refine args_cons (Subscript_ ?_)
      refine eCell ec rfl rfl (hc2 S).2.1 dT' ?_
      refine wpAny_Slice (evalPart_some_step ?_)
      refine eCell ec rfl rfl (hc2 S).1 hoc ?_
      refine evalPart_some_step ?_
      walk_at "n"
      refine evalPart_none_step ?_
      refine cut_ss (a := i) (b := i + j) S rfl (by omega) (by omega) (fun h12 t12 k12 S => ?_)
      dsimp only
      have e1 : (⟨((tx.cps.toList.take (i + j)).drop i).toArray⟩ : Str) = ofL ((tx.cps.toList.take (i + j)).drop i) := rfl
      rw [e1]
      have hgl : (ofL ((tx.cps.toList.take (i + j)).drop i)).length ≤ 10 := by rw [ofL_length, List.length_drop, List.length_take, len_toList]; omega
      refine args_nil ⟨S.bg B, wpAny_call (em_call X G (S.bg B) (hA.less (j := 1) (by omega)) hM (by omega) (by omega) fun h13 tk13 x13 => ?_)⟩
      have S := S.call x13
      refine wpAny_truthy_bool ?_
      have hrg : List.range' i (j + 1) = List.range' i j ++ [i + j] := by rw [List.range'_concat]; simp
      by_cases hb : emB pt (ofL ((tx.cps.toList.take (i + j)).drop i)) = true
      · rw [if_pos hb]
        walk_at "n"
        refine ⟨N₁, _, _, _, rfl, S, ?_, by simp; omega, by omega⟩
        rw [hrg, List.filter_append, List.filter_cons_of_pos (p := fun b => emB pt (ofL ((tx.cps.toList.take b).drop i))) hb, List.filter_nil, List.map_append]
        exact IntsAre.append hJ1 (.cons _ _ .nil)
      · rw [if_neg hb]
        refine ⟨N₁, _, _, _, rfl, S, ?_, by omega, by omega⟩
        rw [hrg, List.filter_append, List.filter_cons_of_neg (p := fun b => emB pt (ofL ((tx.cps.toList.take b).drop i))) hb, List.filter_nil, List.append_nil]
        exact hJ1
    · intro D ys nD h11 tk11 ⟨hJ1, hJ2, _⟩ S
      refine args_nil ?_
      refine append_FS (pre := [(D, lst ys nD), (r2, ro2), (env.locals + 3, oc)]) S (by omega) fun h12 n12 S => ?_
      dsimp only
      refine wpAny_execs_nil ?_
      rw [← tabT_get (pt := pt) (by omega)] at hJ1
      have htk : (tabT pt tx).take (i + 1) = (tabT pt tx).take i ++ [(tabT pt tx).getD i []] := by
        have hil : i < (tabT pt tx).length := by simp [tabT]; omega
        rw [List.take_add_one, List.getD_eq_getElem?_getD, List.getElem?_eq_getElem hil]; rfl
      have S := S.perm (N' := (r2, ro2) :: (env.locals + 3, oc) :: ((ta, lst (tv ++ [.ref D]) n12) :: (D, lst ys nD) :: M ++ p :: (r, ro) :: (env.locals + 4, oC) :: (env.locals + 2, oT') :: (env.locals + 1, oP') :: F)) (by
        exact (List.Perm.swap _ _ _).trans (((List.Perm.swap _ _ _).trans ((List.Perm.swap _ _ _).cons _)).cons _))
      exact ⟨_, (ta, lst (tv ++ [.ref D]) n12) :: (D, lst ys nD) :: M, oc, _, _, _, rfl, hoc, S.sub (.cons _ (List.Sublist.refl _)), _, _, _, rfl, htk ▸ hT.snoc hJ1, by omega, rfl⟩
  rintro vs oc ov N h9 tk9 ⟨tv, n, M, rfl, hT, _, rfl⟩ hoc S
  rw [List.take_of_length_le (by simp [tabT])] at hT
  dsimp only
  refine wpAny_execs_cons (wpAny_For (Tuple_ (wpAny_items_cons (wpAny_Constant_int (wpAny_items_cons (wpAny_UnaryOp (wpAny_Constant_int (neg_int (wpAny_items_nil ?_)))))))))
  refine newTuple_FS S (fun S => ?_) (by rw [sizeLine_eq]; simp)
  have S := S.perm (perm_B _ _ _ _ _ M _)
  refine tuple_for (x := "pick") (ix := 4) (N := [(env.locals + 4, oC)]) hA.handled
    (fun h m N' S => isTuple_tpl (S.get (List.mem_append_right _ (.head _)))) e.kind (e.kindOf rfl) rfl (by decide) S
    (fun i vs N => ∃ oC ov v4 v5 v6 v7 v8 v9, oC.data = .cell ov ∧ N = [(env.locals + 4, oC)] ∧ vs = [some (.ref sa), some (.ref ra), some (.ref pa), some (.ref ta), v4, v5, v6, v7, v8, v9]) ?_ ⟨_, _, _, _, _, _, _, _, dC, rfl, rfl⟩ ?_ ?_
  · rintro i vs N ⟨_, _, _, _, _, _, _, _, _, _, rfl⟩; rfl
  · rintro i v vs N p h10 tk10 E10 hi hv ⟨oC', ov', v4, v5, v6, v7, v8, v9, dC', rfl, rfl⟩ S
    dsimp only [List.set, List.cons_append, List.nil_append] at S
    obtain ⟨pk, tpk, rfl, hpk⟩ : ∃ pk tpk, v = .int pk tpk ∧ (pk = 0 ∨ pk = -1) := by
      have h3 : i < 2 := by simpa using hi
      rcases (show i = 0 ∨ i = 1 by omega) with q | q <;> subst q <;> simp at hv <;> subst hv
      · exact ⟨_, _, rfl, .inl rfl⟩
      · exact ⟨_, _, rfl, .inr rfl⟩
    refine law_col (tM := tM) rfl rfl rfl X G B hA hU hC1 hC2 hHit hSr hFi hEn hCt (by omega) (by omega) hpk e dC'
      (.tail _ (.tail _ (.tail _ (.tail _ (List.mem_append_right _ (.tail _ (.head _))))))) dT' (.tail _ (.tail _ (.tail _ (.tail _ (List.mem_append_right _ (.tail _ (.tail _ (.tail _ m5)))))))) hps (.tail _ (.tail _ (.tail _ (.head _))))
      (hT.mono (fun q hq => .tail _ (.tail _ (.tail _ (.tail _ (List.mem_append_left _ hq)))))) S fun oC2 ov2 v4 v5 v6 v7 v8 v9 h11 tk11 dC2 S => ?_
    exact ⟨_, [(env.locals + 4, oC2)], _, _, rfl, S, _, _, _, _, _, _, _, _, dC2, rfl, rfl⟩
  · rintro vs N h10 tk10 ⟨oC', ov', v4, v5, v6, v7, v8, v9, dC', rfl, rfl⟩ S
    dsimp only
    refine wpAny_execs_cons (wpAny_Return_some (wpAny_Constant_bool ?_))
    exact h _ _ S.ext
end
section
variable {w : World} {s₁ : Shared} {mg mb : Str → Option Value} {p : Program} {loose : List Str} {mean : ExcName → Option Value} {gh : Heap}

theorem aok_caller (env : Env) : AOk (callerA.deeper env) 10 := ⟨rfl, by show (1 + claimMargin) + 1 + 10 < recursionLimit; decide +kernel⟩
theorem gd_of (X : (KK w.params).In gh) (T : Top p loose mean mg mb gh) : Gd gh mg mb :=
  ⟨T.g, T.b, T.nolimit, mg_none_of X T.g (by kernel_rfl), (T.builtins _ (by decide +kernel)).trans (by decide +kernel), mg_none_of X T.g (by kernel_rfl), (T.builtins _ (by decide +kernel)).trans (by decide +kernel),
    mg_none_of X T.g (by kernel_rfl), (T.builtins _ (by decide +kernel)).trans (by decide +kernel), T.bmain⟩

theorem tabs_of {h : Heap} (h1 : h.get? 30 = some (tabObj #[])) (h2 : h.get? 37 = some (tabObj #[])) : Tabs TT h := by
  intro t ht
  simp only [TT, List.mem_cons, List.not_mem_nil, or_false] at ht
  rcases ht with rfl | rfl
  · exact ⟨#[], h1, trivial, fun q _ cv hc => by cases hc⟩
  · exact ⟨#[], h2, trivial, fun q _ cv hc => by cases hc⟩
theorem grown_of {h : Heap} (T : Tabs TT h) : GrownAll [(34, 30), (41, 37)] h := by
  obtain ⟨ps, e, _⟩ := T T1 T1_mem
  obtain ⟨qs, f, _⟩ := T T2 T2_mem
  exact ⟨⟨ps, e⟩, ⟨qs, f⟩, trivial⟩
theorem bg_of (hT : TabsAt [(34, 30), (41, 37)] s₁.heap) : Bg (ghostOf s₁.heap [(34, 30), (41, 37)]) TT s₁.heap :=
  ⟨fun b o e => of_hideAll _ e, fun p hp => hideAll_none _ hp, tabs_of (hT (34, 30) (.head _)).2 (hT (41, 37) (.tail _ (.head _))).2⟩
theorem fs_of {h₁ : Heap} {sa : Addr} {ks : List Str} (hT : TabsAt [(34, 30), (41, 37)] s₁.heap) (F : Fr (ghostOf s₁.heap [(34, 30), (41, 37)]) s₁.heap.objs.size h₁ fun x => List.lookup x [(("script" : Str), Value.ref sa)].reverse)
    (N : News (ghostOf s₁.heap [(34, 30), (41, 37)]) s₁.heap.objs.size h₁ [(30, tabObj #[]), (37, tabObj #[])]) : FS TT s₁.heap s₁.heap.objs.size (amap ("script" :: ks) (some (.ref sa) :: ks.map fun _ => none)) [] h₁ := by
  refine ⟨⟨fun b o e hb => F.keep b o (ghost_ne e hb), Nat.le_of_lt F.ns.lt, fun _ => tabs_of (N _ (.head _)).1 (N _ (.tail _ (.head _))).1⟩, ?_, Nat.le_refl _, (fun p hp => by cases hp), List.Pairwise.nil, (bg_of hT).tb⟩
  have := F.ns
  rw [show (fun x => List.lookup x [((("script" : Str), Value.ref sa))].reverse) = amap ["script"] [some (.ref sa)] from bind_amap [("script", .ref sa)], amap_pad ks rfl] at this
  exact this
theorem good_of {c : ClaimW} {cl : Str → Option Addr} {args : List WData} {h' : Heap} {tk : Nat} (hT : TabsAt [(34, 30), (41, 37)] s₁.heap) (hg : s₁.gens = #[]) (x : Ext TT s₁.heap h')
    (hr : ∀ cls, c.raises args cls = false) (hp : c.post args (.bool true) args = true) :
    GoodW c cl mean args { s₁ with heap := ghostOf s₁.heap [(34, 30), (41, 37)] } (.ok (.ret (.bool true))) { s₁ with heap := h', toks := tk } ∧ GrownAll [(34, 30), (41, 37)] h' := by
  refine ⟨⟨.inl ⟨_, .bool true, [], rfl, hr, .bool true, hp, fun _ => ⟨List.nodup_nil, fun a ha => by cases ha⟩⟩, fun b o e => ?_, rfl, hg⟩, grown_of (x.tabs (bg_of hT).tb)⟩
  exact x.keep b o (of_hideAll _ e) fun hb => by
    have := hideAll_none (h := s₁.heap) [30, 37] (b := b) hb
    rw [show (ghostOf s₁.heap [(34, 30), (41, 37)]) = hideAll s₁.heap [30, 37] from rfl] at e
    rw [this] at e; cases e
end
theorem ne_off (L : Nat) {i j : Nat} (h : i ≠ j) : L + i ≠ L + j := by omega
theorem fs_of2 {s₁ : Shared} {h₁ : Heap} {sa : Addr} {ks : List Str} {m : Str → Option Value} {a b c d : Obj} {va vb vc vd : Option Value} (hT : TabsAt [(34, 30), (41, 37)] s₁.heap) (F : Fr (ghostOf s₁.heap [(34, 30), (41, 37)]) s₁.heap.objs.size h₁ m) (hm : m = amap ["script"] [some (.ref sa)])
    (da : a.data = .cell va) (db : b.data = .cell vb) (dc : c.data = .cell vc) (dd : d.data = .cell vd)
    (N : News (ghostOf s₁.heap [(34, 30), (41, 37)]) s₁.heap.objs.size h₁ [(s₁.heap.objs.size + 4, a), (s₁.heap.objs.size + 3, b), (s₁.heap.objs.size + 2, c), (s₁.heap.objs.size + 1, d), (30, tabObj #[]), (37, tabObj #[])]) :
    FS TT s₁.heap s₁.heap.objs.size (amap ("script" :: ks) (some (.ref sa) :: ks.map fun _ => none)) [(s₁.heap.objs.size + 4, a), (s₁.heap.objs.size + 3, b), (s₁.heap.objs.size + 2, c), (s₁.heap.objs.size + 1, d)] h₁ := by
  subst hm
  refine ⟨⟨fun b o e hb => F.keep b o (ghost_ne e hb), Nat.le_of_lt F.ns.lt, fun _ => tabs_of (N _ (.tail _ (.tail _ (.tail _ (.tail _ (.head _)))))).1 (N _ (.tail _ (.tail _ (.tail _ (.tail _ (.tail _ (.head _))))))).1⟩, ?_, Nat.le_refl _, (fun p hp => ?_), ?_, (bg_of hT).tb⟩
  · have := F.ns
    rw [amap_pad ks rfl] at this
    exact this
  · have hg : h₁.get? p.1 = some p.2 := (N p (List.mem_append_left [(30, tabObj #[]), (37, tabObj #[])] hp)).1
    refine ⟨hg, (N p (List.mem_append_left [(30, tabObj #[]), (37, tabObj #[])] hp)).2.1, .inl ?_⟩
    simp only [List.mem_cons, List.not_mem_nil, or_false] at hp
    rcases hp with rfl | rfl | rfl | rfl <;> exact Nat.le_add_right _ _
  · refine List.Pairwise.cons (fun q hq => ?_) (List.Pairwise.cons (fun q hq => ?_) (List.Pairwise.cons (fun q hq => ?_) (List.Pairwise.cons (fun q hq => ?_) List.Pairwise.nil)))
    · simp only [List.mem_cons, List.not_mem_nil, or_false] at hq
      rcases hq with rfl | rfl | rfl <;> exact .inl (ne_off _ (by decide))
    · simp only [List.mem_cons, List.not_mem_nil, or_false] at hq
      rcases hq with rfl | rfl <;> exact .inl (ne_off _ (by decide))
    · simp only [List.mem_cons, List.not_mem_nil, or_false] at hq
      rcases hq with rfl
      exact .inl (ne_off _ (by decide))
    · cases hq
theorem units_caller (env : Env) : (callerA.deeper env).units + 64 < cLine := by
  have h : (callerA.deeper env).units + 64 = (callerA.deeper default).units + 64 := rfl
  rw [h]
  decide +kernel
end Mine
open Mine
theorem PySem.Challenge.cw_mj0092_02_holds : PySem.Challenge.rw_mj0092_02.Holds :=
  hd2 (by
  k_go0
  rename Frag.In _ _ => X9
  rename Top _ _ _ _ _ (ghostOf _ _) => T9
  rename Fr _ _ _ _ => F9
  rename News _ _ _ _ => N9
  rename TabsAt _ _ => hT9
  rename IntsAre _ _ => hI9
  rename Heap.IsList (ghostOf _ _) _ _ => hl9
  rename (_ : Shared).gens = #[] => hg9
  rename (_ : Obj).data = _ => d4
  revert d4
  rename (_ : Obj).data = _ => d3
  revert d3
  rename (_ : Obj).data = _ => d2
  revert d2
  rename (_ : Obj).data = _ => d1
  intro d2 d3 d4
  refine law_body rfl rfl rfl X9 (gd_of X9 T9) (bg_of hT9) (aok_caller _) (units_caller _) (codeHd_of_K X9 (by kernel_rfl)) (codeHd_of_K X9 (by kernel_rfl)) (mg_of X9 T9.g rfl) (mg_of X9 T9.g rfl) (mg_of X9 T9.g rfl) (mg_of X9 T9.g rfl) (mg_of X9 T9.g rfl) (mg_of X9 T9.g rfl) (mg_of X9 T9.g rfl) (mg_of X9 T9.g rfl) hl9 hI9 (by omega) ⟨rfl, rfl, rfl, rfl, rfl, rfl, rfl⟩ d1 d2 d3 d4 (fs_of2 (ks := lawNs.tail) hT9 F9 rfl d1 d2 d3 d4 N9) ?_
  intro h' tk x
  exact good_of hT9 hg9 x (fun _ => rfl) (by simp only [W.RowW.claim]; with_unfolding_all rfl))
