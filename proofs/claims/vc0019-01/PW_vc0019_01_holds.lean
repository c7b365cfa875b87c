import PyProof.Rows.All
import Wide.All
import OpenK.AllK
import Wide.FinOn
import PySem.Challenge.RW_vc0019_01
set_option Elab.async false
set_option maxRecDepth 100000

section -- Hd
open PySem PySem.W PyProof.Rows
set_option maxRecDepth 100000
set_option maxHeartbeats 8000000
local macro_rules | `(tactic| o_head ($f $k $a $e $ts)) => `(tactic| o_head (($f $k $a $e (469 :: 474 :: 480 :: $ts) : PySem.W.Hook)))
namespace Mine
open_top hd for PySem.Challenge.rw_vc0019_01
end Mine
end

section -- B1
open PySem PySem.Calls PySem.W PyProof.Rows
set_option maxRecDepth 100000
namespace Mine

/-- a Python datum as a plain tree; «val» is one very value, «obj» an object of the law's class -/
inductive PD where
  | val (v : Value)
  | int (i : Int)
  | str (x : Str)
  | list (xs : List PD)
  | tup (xs : List PD)
  | dict (es : List (PD × PD))
  | obj (k : Addr) (p q : PD)
  | kind (k : Addr)
  | attr (x : Str)
  | clo (fd : FuncData) (fr : Option (Str × Str))
  /-- an int, a str with a token of its own -/
  | intz (i : Int)
  | strz (x : Str)
  /-- an object with its table; one whose table is another's matter -/
  | inst (C : Addr) (es : List (PD × PD))
  | ins (C dx : Addr)
  | any

abbrev Led := Addr → Obj → Prop
def Led.or (L M : Led) : Led := fun a o => L a o ∨ M a o

abbrev madeC : Addr := 206
abbrev kindC : Addr := 135
abbrev attrC : Addr := 306

/-- an attribute of the class made -/
def AttrAt (L : Led) (a : Addr) (x : Str) : Prop := ∃ ad es n t1 t2, L a (instObj attrC ad) ∧ L ad (dictOf es n) ∧ getL "name" es = some (some (.str x t1)) ∧ getL "alias" es = some (some (.str x t2)) ∧
  getL "eq_key" es = some (some .none) ∧ getL "init" es = some (some (.bool true)) ∧ getL "kw_only" es = some (some (.bool false)) ∧ getL "converter" es = some (some .none) ∧ getL "validator" es = some (some .none) ∧
  getL "eq" es = some (some (.bool true)) ∧ getL "order" es = some (some (.bool true)) ∧ ∃ d, getL "default" es = some (some d)
/-- the class made -/
def KindAt (L : Led) (k : Addr) : Prop := ∃ kd es n ma mo mn aa ao an ea eo en a1 a2 a3 a4, L k (instObj kindC kd) ∧ L kd (dictOf es n) ∧
  (getL "mro" es = some (some (.ref ma)) ∧ L ma mo ∧ mo.cls = .type "list" ∧ mo.data = .seq #[.ref k] mn) ∧
  (getL "attrs" es = some (some (.ref aa)) ∧ L aa ao ∧ ao.cls = .type "tuple" ∧ ao.data = .seq #[.ref a1, .ref a2] an) ∧
  (getL "eq_attrs" es = some (some (.ref ea)) ∧ L ea eo ∧ eo.cls = .type "list" ∧ eo.data = .seq #[.ref a3, .ref a4] en) ∧
  getL "eq_of" es = some none ∧ AttrAt L a1 "p" ∧ AttrAt L a2 "q" ∧ AttrAt L a3 "p" ∧ AttrAt L a4 "q"
theorem AttrAt.mono {L M : Led} (hs : ∀ a o, L a o → M a o) {a : Addr} {x : Str} (h : AttrAt L a x) : AttrAt M a x := by
  obtain ⟨ad, es, n, t1, t2, h1, h2, r⟩ := h
  exact ⟨ad, es, n, t1, t2, hs _ _ h1, hs _ _ h2, r⟩
theorem KindAt.mono {L M : Led} (hs : ∀ a o, L a o → M a o) {k : Addr} (h : KindAt L k) : KindAt M k := by
  obtain ⟨kd, es, n, ma, mo, mn, aa, ao, an, ea, eo, en, a1, a2, a3, a4, h1, h2, ⟨m1, m2, m3⟩, ⟨b1, b2, b3⟩, ⟨c1, c2, c3⟩, e, x1, x2, x3, x4⟩ := h
  exact ⟨kd, es, n, ma, mo, mn, aa, ao, an, ea, eo, en, a1, a2, a3, a4, hs _ _ h1, hs _ _ h2, ⟨m1, hs _ _ m2, m3⟩, ⟨b1, hs _ _ b2, b3⟩, ⟨c1, hs _ _ c2, c3⟩, e, x1.mono hs, x2.mono hs, x3.mono hs, x4.mono hs⟩
/-- a function made in the call, like the model fp -/
def CloAt (L : Led) (a : Addr) (fp : FuncData) (fr : Option (Str × Str)) : Prop := ∃ o fd c oc vc tc, L a o ∧ o.cls ≠ .none ∧ o.data = .func fd ∧
  (fd.params = fp.params ∧ fd.body = fp.body ∧ fd.scope = fp.scope ∧ fd.globals = mainGlobals ∧ fd.builtins = builtinsNs ∧ fd.defaults = fp.defaults ∧ fd.kwdefaults = fp.kwdefaults) ∧
  (fd.code = .ref c ∧ L c oc ∧ oc.data = .fields vc ∧ vc[1]? = some (.str fd.qualname tc)) ∧
  match fr with
  | none => fd.closure = []
  | some (y, x) => ∃ l ol t, fd.closure = [(y, l)] ∧ L l ol ∧ ol.data = .cell (some (.str x t))
theorem CloAt.mono {L M : Led} (hs : ∀ a o, L a o → M a o) {a : Addr} {fp : FuncData} {fr : Option (Str × Str)} (h : CloAt L a fp fr) : CloAt M a fp fr := by
  obtain ⟨o, fd, c, oc, vc, tc, h1, h2, h3, h4, ⟨c1, c2, c3⟩, r⟩ := h
  refine ⟨o, fd, c, oc, vc, tc, hs _ _ h1, h2, h3, h4, ⟨c1, hs _ _ c2, c3⟩, ?_⟩
  cases fr with
  | none => exact r
  | some p => obtain ⟨l, ol, t, e1, e2, e3⟩ := r; exact ⟨l, ol, t, e1, hs _ _ e2, e3⟩

mutual
/-- the frozen part L bears the datum at the value -/
inductive Is (hk : PD → Int) (L : Led) : Value → PD → Prop
  | val (v : Value) : Is hk L v (.val v)
  | int (i : Int) (t : Tok) : Is hk L (.int i t) (.int i)
  | str (x : Str) (t : Tok) : Is hk L (.str x t) (.str x)
  | list {a : Addr} {o : Obj} {vs : Array Value} {n : Nat} {xs : List PD} : L a o → o.cls = .type "list" → o.data = .seq vs n → IsAll hk L vs.toList xs → Is hk L (.ref a) (.list xs)
  | tup {a : Addr} {o : Obj} {vs : Array Value} {n : Nat} {xs : List PD} : L a o → o.cls = .type "tuple" → o.data = .seq vs n → IsAll hk L vs.toList xs → Is hk L (.ref a) (.tup xs)
  | dict {a : Addr} {o : Obj} {es : Array DictEntry} {n : Nat} {xs : List (PD × PD)} : L a o → o.ExactDict → o.data = .dict es n → IsEs hk L es.toList xs → Is hk L (.ref a) (.dict xs)
  | obj {x dx k hd : Addr} {h1 h2 : Int} {t1 t2 : Tok} {n : Nat} {p q : PD} : L x (instObj madeC dx) →
      L dx (dictOf [⟨h1, .str (Str.ofString "kind") t1, .ref k⟩, ⟨h2, .str (Str.ofString "held") t2, .ref hd⟩] n) →
      Is hk L (.ref hd) (.dict [(.str (Str.ofString "p"), p), (.str (Str.ofString "q"), q)]) → KindAt L k → Is hk L (.ref x) (.obj k p q)
  | kind {k : Addr} : KindAt L k → Is hk L (.ref k) (.kind k)
  | attr {a : Addr} {x : Str} : AttrAt L a x → Is hk L (.ref a) (.attr x)
  | clo {a : Addr} {fp : FuncData} {fr : Option (Str × Str)} : CloAt L a fp fr → Is hk L (.ref a) (.clo fp fr)
  | intz (i : Int) (t : Tok) : t ≠ 0 → Is hk L (.int i t) (.intz i)
  | strz (x : Str) (t : Tok) : t ≠ 0 → Is hk L (.str x t) (.strz x)
  | inst {x C dx : Addr} {es : List (PD × PD)} : L x (instObj C dx) → Is hk L (.ref dx) (.dict es) → Is hk L (.ref x) (.inst C es)
  | ins {x C dx : Addr} : L x (instObj C dx) → Is hk L (.ref x) (.ins C dx)
  | any (a : Addr) : Is hk L (.ref a) .any
inductive IsAll (hk : PD → Int) (L : Led) : List Value → List PD → Prop
  | nil : IsAll hk L [] []
  | cons {v : Value} {vs : List Value} {x : PD} {xs : List PD} : Is hk L v x → IsAll hk L vs xs → IsAll hk L (v :: vs) (x :: xs)
inductive IsEs (hk : PD → Int) (L : Led) : List DictEntry → List (PD × PD) → Prop
  | nil : IsEs hk L [] []
  | cons {e : DictEntry} {es : List DictEntry} {x : PD × PD} {xs : List (PD × PD)} : e.hash = hk x.1 → Is hk L e.key x.1 → Is hk L e.val x.2 → IsEs hk L es xs → IsEs hk L (e :: es) (x :: xs)
end

section
variable {hk : PD → Int} {L M : Led}
mutual
theorem Is.mono (hs : ∀ a o, L a o → M a o) : ∀ {v : Value} {d : PD}, Is hk L v d → Is hk M v d
  | _, _, .val v => .val v
  | _, _, .int i t => .int i t
  | _, _, .str x t => .str x t
  | _, _, .list h1 h2 h3 h4 => .list (hs _ _ h1) h2 h3 (IsAll.mono hs h4)
  | _, _, .tup h1 h2 h3 h4 => .tup (hs _ _ h1) h2 h3 (IsAll.mono hs h4)
  | _, _, .dict h1 h2 h3 h4 => .dict (hs _ _ h1) h2 h3 (IsEs.mono hs h4)
  | _, _, .obj h1 h2 h3 h4 => .obj (hs _ _ h1) (hs _ _ h2) (Is.mono hs h3) (h4.mono hs)
  | _, _, .kind h => .kind (h.mono hs)
  | _, _, .attr h => .attr (h.mono hs)
  | _, _, .clo h => .clo (h.mono hs)
  | _, _, .intz i t h => .intz i t h
  | _, _, .strz x t h => .strz x t h
  | _, _, .inst h1 h2 => .inst (hs _ _ h1) (Is.mono hs h2)
  | _, _, .ins h => .ins (hs _ _ h)
  | _, _, .any v => .any v
theorem IsAll.mono (hs : ∀ a o, L a o → M a o) : ∀ {v : List Value} {d : List PD}, IsAll hk L v d → IsAll hk M v d
  | _, _, .nil => .nil
  | _, _, .cons h1 h2 => .cons (Is.mono hs h1) (IsAll.mono hs h2)
theorem IsEs.mono (hs : ∀ a o, L a o → M a o) : ∀ {v : List DictEntry} {d : List (PD × PD)}, IsEs hk L v d → IsEs hk M v d
  | _, _, .nil => .nil
  | _, _, .cons h0 h1 h2 h3 => .cons h0 (Is.mono hs h1) (Is.mono hs h2) (IsEs.mono hs h3)
end
theorem IsAll.length {vs : List Value} {xs : List PD} (h : IsAll hk L vs xs) : vs.length = xs.length := by
  induction xs generalizing vs with
  | nil => cases h; rfl
  | cons x xs ih => cases h with | cons h1 h2 => simp [ih h2]
theorem IsAll.append {vs us : List Value} {xs ys : List PD} (h : IsAll hk L vs xs) (g : IsAll hk L us ys) : IsAll hk L (vs ++ us) (xs ++ ys) := by
  induction xs generalizing vs with
  | nil => cases h; exact g
  | cons x xs ih => cases h with | cons h1 h2 => exact .cons h1 (ih h2)
theorem IsAll.get {vs : List Value} {xs : List PD} (h : IsAll hk L vs xs) {i : Nat} {v : Value} (hv : vs[i]? = some v) : ∃ x, xs[i]? = some x ∧ Is hk L v x := by
  induction xs generalizing vs i with
  | nil => cases h; simp at hv
  | cons x xs ih =>
    cases h with
    | cons h1 h2 =>
      cases i with
      | zero => simp at hv; subst hv; exact ⟨x, rfl, h1⟩
      | succ i => simpa using ih h2 (by simpa using hv)
theorem IsAll.get' {vs : List Value} {xs : List PD} (h : IsAll hk L vs xs) {i : Nat} {x : PD} (hx : xs[i]? = some x) : ∃ v, vs[i]? = some v ∧ Is hk L v x := by
  induction xs generalizing vs i with
  | nil => simp at hx
  | cons y xs ih =>
    cases h with
    | cons h1 h2 =>
      cases i with
      | zero => simp at hx; subst hx; exact ⟨_, rfl, h1⟩
      | succ i => simpa using ih h2 (by simpa using hx)
end

/-- no table of a code object's of the top's -/
def Solid (H : Heap) (a : Addr) (o : Obj) : Prop := o.cls ≠ .none ∨ (∀ vs, o.data ≠ .fields vs) ∨ H.get? a = none
def Good (H : Heap) (a : Addr) (o : Obj) : Prop := Solid H a o ∧ (a == sysModules) = false
variable {H : Heap}
/-- what stood stands -/
structure Keep (H h h' : Heap) : Prop where
  keep : ∀ a o, h.get? a = some o → Solid H a o → h'.get? a = some o
  there : ∀ a o, h.get? a = some o → ∃ o', h'.get? a = some o'
theorem Keep.refl (h : Heap) : Keep H h h := ⟨fun _ _ e _ => e, fun _ o e => ⟨o, e⟩⟩
theorem Keep.trans {h h' h'' : Heap} (x : Keep H h h') (y : Keep H h' h'') : Keep H h h'' := ⟨fun a o e c => y.keep a o (x.keep a o e c) c, fun a o e => let ⟨o', e'⟩ := x.there a o e; y.there a o' e'⟩
theorem Keep.all {h h' : Heap} (k : ∀ a o, h.get? a = some o → h'.get? a = some o) : Keep H h h' := ⟨fun a o e _ => k a o e, fun a o e => ⟨o, k a o e⟩⟩
theorem Keep.none {h h' : Heap} (x : Keep H h h') {a : Addr} (e : h'.get? a = .none) : h.get? a = .none := by
  cases q : h.get? a with
  | none => rfl
  | some o => obtain ⟨o', e'⟩ := x.there a o q; rw [e] at e'; cases e'
theorem get_size (h : Heap) : h.get? h.objs.size = none := by
  cases q : h.get? h.objs.size with
  | none => rfl
  | some o => exact absurd (Heap.lt_size q) (Nat.lt_irrefl _)

def Fresh (H h h' : Heap) : Led := fun a o => h.get? a = none ∧ h'.get? a = some o ∧ Good H a o
def Holds (H : Heap) (L : Led) (h : Heap) : Prop := ∀ a o, L a o → h.get? a = some o ∧ Good H a o
theorem Holds.keep {L : Led} {h h' : Heap} (x : Holds H L h) (k : Keep H h h') : Holds H L h' := fun a o e => ⟨k.keep a o (x a o e).1 (x a o e).2.1, (x a o e).2⟩
theorem Holds.fresh {h h' : Heap} : Holds H (Fresh H h h') h' := fun _ _ e => e.2
theorem Holds.or {L M : Led} {h : Heap} (x : Holds H L h) (y : Holds H M h) : Holds H (L.or M) h := fun a o e => e.elim (x a o) (y a o)
theorem Fresh.right {h h' h'' : Heap} (k : Keep H h' h'') {a : Addr} {o : Obj} (x : Fresh H h h' a o) : Fresh H h h'' a o := ⟨x.1, k.keep a o x.2.1 x.2.2.1, x.2.2⟩
theorem Fresh.left {h h' h'' : Heap} (k : Keep H h h') {a : Addr} {o : Obj} (x : Fresh H h' h'' a o) : Fresh H h h'' a o := ⟨k.none x.1, x.2⟩

/-- a code object's record -/
def RecAt (o : Obj) (x : Str) : Prop := ∃ vs t, o.data = .fields vs ∧ vs[1]? = some (.str x t)
/-- a table of a code of the top's, whose codes are known by their lines -/
def TabSp (H h : Heap) (P : Addr) (nm : Nat → Str) : Prop := (∃ o, H.get? P = some o) ∧ ∃ ps, h.get? P = some (tabObj ps) ∧ TriplesOk ps.toList ∧
  ∀ pos cv, codeAmong pos ps.toList = some cv → ∃ c oc, cv = .ref c ∧ h.get? c = some oc ∧ H.get? c = none ∧ RecAt oc (nm pos.line)
abbrev specT : List (Addr × (Nat → Str)) := [((238 : Addr), fun _ => Str.ofString "_determine_attrib_eq_order.<locals>.decide_callable_or_boolean"), ((512 : Addr), fun l => if l == 531 then Str.ofString "law.<locals>.left_in" else Str.ofString "law.<locals>.turn")]
theorem TabSp.all {H h h' : Heap} {P : Addr} {nm : Nat → Str} (x : TabSp H h P nm) (k : ∀ a o, h.get? a = some o → h'.get? a = some o) : TabSp H h' P nm := by
  obtain ⟨h0, ps, h1, h2, h3⟩ := x
  refine ⟨h0, ps, k _ _ h1, h2, fun pos cv e => ?_⟩
  obtain ⟨c, oc, e1, e2, e3⟩ := h3 pos cv e
  exact ⟨c, oc, e1, k _ _ e2, e3⟩
/-- the heap behind the top, as the call's own steps may leave it -/
structure Inv (H h : Heap) : Prop where
  old : OldK H h
  kept : Keep H H h
  tabs : ∀ c P, (∃ ps, H.IsCode c P ps ∧ H.TableAt c P ps) → P ≠ cStatics → ∃ ps, h.IsCode c P ps ∧ h.TableAt c P ps
  lim : h.NoLimit
  limH : H.NoLimit
  sysm : ∃ o, H.get? sysModules = some o
  spec : ∀ q ∈ specT, TabSp H h q.1 q.2
theorem Inv.get {h : Heap} (x : Inv H h) {a : Addr} {o : Obj} (e : H.get? a = some o) (c : o.cls ≠ .none) : h.get? a = some o := x.old.get_of_cls e c
theorem Inv.none {h : Heap} (x : Inv H h) {a : Addr} (e : h.get? a = .none) : H.get? a = .none := x.kept.none e
theorem Inv.all {h h' : Heap} (x : Inv H h) (k : ∀ a o, h.get? a = some o → h'.get? a = some o) : Inv H h' :=
  ⟨x.old.step_keeps k, x.kept.trans (.all k), fun c P e hP => let ⟨ps, a, b⟩ := x.tabs c P e hP; ⟨ps, a.keeps k, b.keeps k⟩, x.lim.keeps k, x.limH, x.sysm, fun q hq => (x.spec q hq).all k⟩
theorem IsCode.old {h : Heap} {c P : Addr} {ps : Array Value} (x : h.IsCode c P ps) : (∃ o, h.get? c = some o) ∧ ∃ o, h.get? P = some o := by
  obtain ⟨o, vs, file, tf, flags, tg, inF, text, tt, op, ho, _, _, _, _, _, _, hop, _⟩ := x
  exact ⟨⟨o, ho⟩, ⟨op, hop⟩⟩
theorem RecAt.dict {o : Obj} {es : Array DictEntry} {n : Nat} (h : o.data = .dict es n) (x : Str) : ¬ RecAt o x := fun ⟨vs, t, e, _⟩ => by rw [h] at e; cases e
theorem RecAt.seq {o : Obj} {es : Array Value} {n : Nat} (h : o.data = .seq es n) (x : Str) : ¬ RecAt o x := fun ⟨vs, t, e, _⟩ => by rw [h] at e; cases e
theorem RecAt.ns {h : Heap} {a : Addr} {m : Str → Option Value} (n : h.Ns a m) : ∀ o x, h.get? a = some o → ¬ RecAt o x := fun o x e => by
  obtain ⟨o', es, ep, e', hd, _⟩ := n
  rw [e] at e'; cases e'
  exact RecAt.dict hd x
theorem RecAt.cell {h : Heap} {a : Addr} {v : Option Value} (n : h.IsCell a v) : ∀ o x, h.get? a = some o → ¬ RecAt o x := fun o x e ⟨vs, t, e2, _⟩ => by
  obtain ⟨o', e', hd⟩ := n
  rw [e] at e'; cases e'
  rw [hd] at e2; cases e2
theorem Inv.new {h : Heap} (x : Inv H h) {a : Addr} (e : H.get? a = .none) : (a == sysModules) = false := by
  obtain ⟨o, ho⟩ := x.sysm
  refine beq_eq_false_iff_ne.mpr fun q => ?_
  rw [q, ho] at e; cases e
/-- changes at addresses that the top knows not -/
theorem Inv.but {h h' : Heap} {X : Addr → Prop} (x : Inv H h) (hX : ∀ a, X a → H.get? a = .none) (hr : ∀ a o x, X a → h.get? a = some o → ¬ RecAt o x) (hs : ∀ b o, ¬ X b → h.get? b = some o → h'.get? b = some o) : Inv H h' := by
  have ne : ∀ b o, H.get? b = some o → ¬ X b := fun b o e q => by rw [hX b q] at e; cases e
  refine ⟨⟨fun b o e => ?_, fun b o e => let ⟨o', ho'⟩ := x.old.there b o e; ⟨o', hs b o' (ne b o e) ho'⟩⟩, ⟨fun b o e c => hs b o (ne b o e) (x.kept.keep b o e c), fun b o e => let ⟨o', ho'⟩ := x.kept.there b o e; ⟨o', hs b o' (ne b o e) ho'⟩⟩, fun c P e hP => ?_, ?_, x.limH, x.sysm, fun q hq => ?_⟩
  · rcases x.old.old b o e with y | ⟨t, hc, vs, more, hv, y⟩ | ⟨rfl, hc, ⟨o', es, n, ho', r⟩, z⟩
    · exact .inl (hs b o (ne b o e) y)
    · exact .inr (.inl ⟨t, hc, vs, more, hv, hs b _ (ne b o e) y⟩)
    · exact .inr (.inr ⟨rfl, hc, ⟨o', es, n, hs _ _ (ne _ o e) ho', r⟩, fun key => by rw [OldK.staticOf_congr ((hs _ _ (ne _ o e) ho').trans ho'.symm) key]; exact z key⟩)
  · obtain ⟨ps, a1, a2⟩ := x.tabs c P e hP
    obtain ⟨ps0, b1, _⟩ := e
    obtain ⟨⟨oc, hc⟩, oP, hP'⟩ := IsCode.old b1
    refine ⟨ps, ?_, ?_⟩
    · obtain ⟨o, vs, file, tf, flags, tg, inF, text, tt, op, ho, hd, h11, h2, h7, h9, h10, hop, r⟩ := a1
      exact ⟨o, vs, file, tf, flags, tg, inF, text, tt, op, hs _ _ (ne _ _ hc) ho, hd, h11, h2, h7, h9, h10, hs _ _ (ne _ _ hP') hop, r⟩
    · obtain ⟨⟨oc', vc, hoc, hcc, hdc, h11c⟩, htP⟩ := a2
      exact ⟨⟨oc', vc, hs _ _ (ne _ _ hc) hoc, hcc, hdc, h11c⟩, hs _ _ (ne _ _ hP') htP⟩
  · obtain ⟨mc, hn, hm⟩ := x.lim
    have hc : ¬ X cStatics := by
      obtain ⟨_, ⟨o, _, _, ho, _⟩, _⟩ := x.limH
      exact ne _ o ho
    exact ⟨mc, by obtain ⟨o, es, ep, e, r⟩ := hn; exact ⟨o, es, ep, hs _ _ hc e, r⟩, hm⟩
  · obtain ⟨⟨o0, h0⟩, ps, h1, h2, h3⟩ := x.spec q hq
    refine ⟨⟨o0, h0⟩, ps, hs _ _ (ne _ _ h0) h1, h2, fun pos cv e => ?_⟩
    obtain ⟨c, oc, e1, e2, e3, e4⟩ := h3 pos cv e
    exact ⟨c, oc, e1, hs _ _ (fun q => hr _ _ _ q e2 e4) e2, e3, e4⟩
theorem Inv.same {h h' : Heap} {a : Addr} (x : Inv H h) (ha : H.get? a = .none) (hr : ∀ o x, h.get? a = some o → ¬ RecAt o x) (hs : Heap.SameBut a h h') (ht : ∃ o, h'.get? a = some o) : Inv H h' :=
  x.but (X := fun b => b = a) (fun _ e => e ▸ ha) (fun b o x e => e ▸ hr o x) (fun b o e q => (hs.2 b e).trans q)

structure Pure (H : Heap) (s s' : Shared) : Prop where
  keep : Keep H s.heap s'.heap
  inv : Inv H s'.heap
  gens : ∀ (g : Nat) x, s.gens[g]? = some x → s'.gens[g]? = some x
  bare : AllBare s.gens → AllBare s'.gens
  os : s'.os = s.os
theorem Pure.refl {s : Shared} (x : Inv H s.heap) : Pure H s s := ⟨.refl _, x, fun _ _ e => e, id, rfl⟩
theorem Pure.toks {s : Shared} (x : Inv H s.heap) (t : Nat) : Pure H s { s with toks := t } := ⟨.refl _, x, fun _ _ e => e, id, rfl⟩
theorem Pure.trans {s s' s'' : Shared} (x : Pure H s s') (y : Pure H s' s'') : Pure H s s'' :=
  ⟨x.keep.trans y.keep, y.inv, fun g z e => y.gens g z (x.gens g z e), fun b => y.bare (x.bare b), y.os.trans x.os⟩
theorem Pure.all {s : Shared} (x : Inv H s.heap) {h' : Heap} {t : Nat} (k : ∀ a o, s.heap.get? a = some o → h'.get? a = some o) : Pure H s { s with heap := h', toks := t } :=
  ⟨.all k, x.all k, fun _ _ e => e, id, rfl⟩
/-- but at some addresses -/
structure PureX (H : Heap) (X : Addr → Prop) (s s' : Shared) : Prop where
  keep : ∀ a o, s.heap.get? a = some o → Solid H a o → ¬ X a → s'.heap.get? a = some o
  there : ∀ a o, s.heap.get? a = some o → ∃ o', s'.heap.get? a = some o'
  inv : Inv H s'.heap
  gens : ∀ (g : Nat) x, s.gens[g]? = some x → s'.gens[g]? = some x
  bare : AllBare s.gens → AllBare s'.gens
  os : s'.os = s.os
theorem PureX.none {X : Addr → Prop} {s s' : Shared} (x : PureX H X s s') {a : Addr} (e : s'.heap.get? a = .none) : s.heap.get? a = .none := by
  cases q : s.heap.get? a with
  | none => rfl
  | some o => obtain ⟨o', e'⟩ := x.there a o q; rw [e] at e'; cases e'
theorem PureX.of {X : Addr → Prop} {s s' : Shared} (x : Pure H s s') : PureX H X s s' := ⟨fun a o e c _ => x.keep.keep a o e c, x.keep.there, x.inv, x.gens, x.bare, x.os⟩
theorem PureX.refl {X : Addr → Prop} {s : Shared} (x : Inv H s.heap) : PureX H X s s := .of (.refl x)
theorem PureX.join {X Y : Addr → Prop} {s s' s'' : Shared} (x : PureX H X s s') (y : PureX H Y s' s'') (hy : ∀ a, Y a → s.heap.get? a = .none ∨ X a) : PureX H X s s'' :=
  ⟨fun a o e c n => y.keep a o (x.keep a o e c n) c fun q => (hy a q).elim (fun z => by rw [z] at e; cases e) n, fun a o e => let ⟨o', e'⟩ := x.there a o e; y.there a o' e', y.inv,
    fun g z e => y.gens g z (x.gens g z e), fun b => y.bare (x.bare b), y.os.trans x.os⟩
theorem PureX.step {X : Addr → Prop} {s s' s'' : Shared} (x : PureX H X s s') (y : Pure H s' s'') : PureX H X s s'' := x.join (Y := fun _ => False) (.of y) fun _ e => e.elim
theorem PureX.pure {X : Addr → Prop} {s s' : Shared} (x : PureX H X s s') (hX : ∀ a, X a → s.heap.get? a = .none) : Pure H s s' :=
  ⟨⟨fun a o e c => x.keep a o e c fun q => (by rw [hX a q] at e; cases e), x.there⟩, x.inv, x.gens, x.bare, x.os⟩
/-- one object that may change -/
theorem PureX.one {X : Addr → Prop} {s : Shared} {a : Addr} {h' : Heap} {t : Nat} (i : Inv H s.heap) (ha : H.get? a = .none) (hr : ∀ o x, s.heap.get? a = some o → ¬ RecAt o x) (hX : X a) (hs : Heap.SameBut a s.heap h') (ht : ∃ o, h'.get? a = some o) : PureX H X s { s with heap := h', toks := t } :=
  ⟨fun b o e _ n => (hs.2 b fun q => n (q ▸ hX)).trans e, fun b o e => by
    by_cases q : b = a
    · exact q ▸ ht
    · exact ⟨o, (hs.2 b q).trans e⟩, i.same ha hr hs ht, fun _ _ e => e, id, rfl⟩

structure Ok (n : Nat) (A : Around) : Prop where
  handled : A.handled = none
  depth : A.depth + 8 * n < recursionLimit
  units : A.units + 20 * n < cLine
theorem Ok.le {n m : Nat} {A : Around} (x : Ok n A) (h : m ≤ n) : Ok m A := ⟨x.handled, by have := x.depth; omega, by have := x.units; omega⟩
theorem Ok.deeper {n : Nat} {A : Around} (x : Ok (n + 1) A) (env : Env) : Ok n (A.deeper env) :=
  ⟨x.handled, by rw [depth_deeper]; have := x.depth; omega, by rw [units_deeper]; have := x.units; omega⟩
theorem Ok.in1 {n : Nat} {A : Around} (x : Ok (n + 1) A) : Ok n A.in1 := ⟨x.handled, by rw [depth_in1]; have := x.depth; omega, by rw [units_in1]; have := x.units; omega⟩
theorem Ok.room {n : Nat} {A : Around} (x : Ok n A) : A.depth < recursionLimit := by have := x.depth; omega
theorem Ok.unit {n : Nat} {A : Around} (x : Ok n A) : A.units < cLine := by have := x.units; omega

/-- a name's value, wherever the frame bears it -/
def Reads1 (h : Heap) (env : Env) (x : Str) (v : Value) : Prop :=
  (env.kindOf x = some .local ∧ ∃ m, h.Ns env.locals m ∧ m x = some v) ∨
  ((env.kindOf x = some .cell ∨ (env.kindOf x = some .free ∧ (x == ("__classdict__" : Str)) = false)) ∧ ∃ c, env.cells.lookup x = some c ∧ h.IsCell c (some v))
theorem Ns.one {h h' : Heap} {a : Addr} {m : Str → Option Value} (n : h.Ns a m) (k : ∀ o, h.get? a = some o → h'.get? a = some o) : h'.Ns a m :=
  let ⟨o, es, ep, e, r⟩ := n; ⟨o, es, ep, k o e, r⟩
theorem Ns.keep {h h' : Heap} {a : Addr} {m : Str → Option Value} (n : h.Ns a m) (k : Keep H h h') : h'.Ns a m :=
  let ⟨o, es, ep, e, hd, r⟩ := n; ⟨o, es, ep, k.keep _ _ e (.inr (.inl fun vs q => by rw [hd] at q; cases q)), hd, r⟩
theorem IsCell.keep {h h' : Heap} {c : Addr} {v : Option Value} (n : h.IsCell c v) (k : Keep H h h') : h'.IsCell c v :=
  let ⟨o, e, hd⟩ := n; ⟨o, k.keep _ _ e (.inr (.inl fun vs q => by rw [hd] at q; cases q)), hd⟩
theorem Reads1.keep {h h' : Heap} {env : Env} {x : Str} {v : Value} (r : Reads1 h env x v) (k : Keep H h h') : Reads1 h' env x v := by
  rcases r with ⟨hk, m, hn, hm⟩ | ⟨hk, c, hl, hc⟩
  · exact .inl ⟨hk, m, Ns.keep hn k, hm⟩
  · exact .inr ⟨hk, c, hl, IsCell.keep hc k⟩
theorem Reads1.load {M : Model} {A : Around} {E : Value → Shared → Prop} {s : Shared} {env : Env} {x : Str} {v : Value} {Q : Value → Shared → Prop} (hk : env.scope.kind = .function)
    (r : Reads1 s.heap env x v) (h : Q v s) : wpAny M A (loadName env x) Q E s := by
  rcases r with ⟨hl, m, hn, hm⟩ | ⟨hl, c, hc, hd⟩
  · exact wpAny_loadName_local hk hl hn hm h
  · rcases hl with hl | ⟨hl, hq⟩
    · exact wpAny_loadName_cell hk hl hc hd h
    · exact wpAny_loadName_free hk hl hc hd h hq

abbrev Look := Str → Option PD
/-- what an expression may lean on -/
structure Fm where
  sc : Scope
  code : Option Addr := none
  qual : Option Str := none
structure Pre (hk : PD → Int) (H : Heap) (F : Fm) (env : Env) (look : Look) (L : Led) (s : Shared) : Prop where
  inv : Inv H s.heap
  led : Holds H L s.heap
  scope : env.scope = F.sc
  kind : F.sc.kind = .function
  glob : env.globals = mainGlobals
  blt : env.builtins = builtinsNs
  code : ∀ c, F.code = some c → env.code = .ref c
  qual : ∀ q, F.qual = some q → env.qual = q
  has : ∀ x, F.sc.names.lookup x = some .cell ∨ F.sc.names.lookup x = some .free → ∃ c, env.cells.lookup x = some c
  cthere : ∀ x c, env.cells.lookup x = some c → ∃ o, s.heap.get? c = some o
  view : ∀ x d, look x = some d → ∃ v, Reads1 s.heap env x v ∧ Is hk L v d

variable {hk : PD → Int}
theorem Pre.pure {F : Fm} {env : Env} {look : Look} {L : Led} {s s' : Shared} (p : Pre hk H F env look L s) (q : Pure H s s') : Pre hk H F env look (L.or (Fresh H s.heap s'.heap)) s' :=
  ⟨q.inv, (p.led.keep q.keep).or .fresh, p.scope, p.kind, p.glob, p.blt, p.code, p.qual, p.has, fun x c e => let ⟨o, e⟩ := p.cthere x c e; q.keep.there c o e, fun x d e => let ⟨v, r, i⟩ := p.view x d e; ⟨v, r.keep q.keep, i.mono fun _ _ => .inl⟩⟩
theorem Pre.same {F : Fm} {env : Env} {look : Look} {L : Led} {s s' : Shared} (p : Pre hk H F env look L s) (e : s'.heap = s.heap) : Pre hk H F env look L s' :=
  ⟨e ▸ p.inv, e ▸ p.led, p.scope, p.kind, p.glob, p.blt, p.code, p.qual, p.has, e ▸ p.cthere, fun x d e' => let ⟨v, r, i⟩ := p.view x d e'; ⟨v, e ▸ r, i⟩⟩

/-- the post of an expression -/
def Post (hk : PD → Int) (H : Heap) (L : Led) (s : Shared) (d : PD) : Value → Shared → Prop := fun v s' => Pure H s s' ∧ Is hk (L.or (Fresh H s.heap s'.heap)) v d
def PostAll (hk : PD → Int) (H : Heap) (L : Led) (s : Shared) (ds : List PD) : List Value → Shared → Prop := fun vs s' => Pure H s s' ∧ IsAll hk (L.or (Fresh H s.heap s'.heap)) vs ds

/-- the step of the frozen part from s over s' to s'' -/
theorem led_step {L : Led} {h h' h'' : Heap} (k : Keep H h h') : ∀ a o, ((L.or (Fresh H h h')).or (Fresh H h' h'')) a o → Keep H h' h'' → (L.or (Fresh H h h'')) a o := fun a o e k2 => by
  rcases e with (e | e) | e
  · exact .inl e
  · exact .inr (e.right k2)
  · exact .inr (e.left k)
theorem Is.step {L : Led} {h h' h'' : Heap} {v : Value} {d : PD} (i : Is hk ((L.or (Fresh H h h')).or (Fresh H h' h'')) v d) (k : Keep H h h') (k2 : Keep H h' h'') : Is hk (L.or (Fresh H h h'')) v d :=
  i.mono fun a o e => led_step k a o e k2
theorem IsAll.step {L : Led} {h h' h'' : Heap} {v : List Value} {d : List PD} (i : IsAll hk ((L.or (Fresh H h h')).or (Fresh H h' h'')) v d) (k : Keep H h h') (k2 : Keep H h' h'') : IsAll hk (L.or (Fresh H h h'')) v d :=
  i.mono fun a o e => led_step k a o e k2
theorem Is.later {L : Led} {h h' h'' : Heap} {v : Value} {d : PD} (i : Is hk (L.or (Fresh H h h')) v d) (k2 : Keep H h' h'') : Is hk (L.or (Fresh H h h'')) v d :=
  i.mono fun _ _ e => e.imp id fun e => e.right k2
end Mine
end

section -- B2
open PySem PySem.Calls PySem.W PyProof.Rows
set_option maxRecDepth 100000
set_option linter.unusedVariables false
namespace Mine
section
variable (prog : Program) (w : World) (hk : PD → Int) (H : Heap)

/-- the expression yields the datum, from wherever the names read so -/
def EV (n : Nat) (F : Fm) (look : Look) (e : Expr) (d : PD) : Prop :=
  ∀ (A : Around) (s : Shared) (L : Led) (env : Env), Ok n A → Pre hk H F env look L s → wpAny (model prog w) A (eval e env) (Post hk H L s d) (fun _ _ => False) s
def ES (n : Nat) (F : Fm) (look : Look) (es : List Expr) (ds : List PD) : Prop :=
  ∀ (A : Around) (s : Shared) (L : Led) (env : Env) (pos : Pos), Ok n A → Pre hk H F env look L s → wpAny (model prog w) A (spliced (backTo pos (starEach es env))) (PostAll hk H L s ds) (fun _ _ => False) s
def ET (n : Nat) (F : Fm) (look : Look) (e : Expr) (b : Bool) : Prop :=
  ∀ (A : Around) (s : Shared) (L : Led) (env : Env), Ok n A → Pre hk H F env look L s → wpAny (model prog w) A (isTrue e env (eval e env)) (fun t s' => t = b ∧ Pure H s s') (fun _ _ => False) s
/-- the call gives the datum -/
def FN (n : Nat) (f : PD) (ps : List PD) (ks : List (Str × PD)) (d : PD) : Prop :=
  ∀ (A : Around) (s : Shared) (L : Led) (fv : Value) (vs : List Value) (kvs : List (Str × Value)), Ok n A → Inv H s.heap → Holds H L s.heap → Is hk L fv f → IsAll hk L vs ps → IsAll hk L (kvs.map (·.2)) (ks.map (·.2)) → kvs.map (·.1) = ks.map (·.1) →
    wpAny (model prog w) A (call fv vs kvs) (Post hk H L s d) (fun _ _ => False) s
end

section
variable {prog : Program} {w : World} {hk : PD → Int} {H : Heap} {n : Nat} {F : Fm} {look : Look}

theorem EV.use {e : Expr} {d : PD} (h : EV prog w hk H n F look e d) {A : Around} {s : Shared} {L : Led} {env : Env} {Q : Value → Shared → Prop} {E : Value → Shared → Prop} (ok : Ok n A) (p : Pre hk H F env look L s)
    (k : ∀ v s', Pure H s s' → Is hk (L.or (Fresh H s.heap s'.heap)) v d → Pre hk H F env look (L.or (Fresh H s.heap s'.heap)) s' → Q v s') : wpAny (model prog w) A (eval e env) Q E s :=
  wpAny_mono (h A s L env ok p) (fun v s' q => k v s' q.1 q.2 (p.pure q.1)) fun _ _ f => f.elim
theorem ES.use {es : List Expr} {ds : List PD} (h : ES prog w hk H n F look es ds) {A : Around} {s : Shared} {L : Led} {env : Env} {pos : Pos} {Q : List Value → Shared → Prop} {E : Value → Shared → Prop} (ok : Ok n A) (p : Pre hk H F env look L s)
    (k : ∀ v s', Pure H s s' → IsAll hk (L.or (Fresh H s.heap s'.heap)) v ds → Pre hk H F env look (L.or (Fresh H s.heap s'.heap)) s' → Q v s') : wpAny (model prog w) A (spliced (backTo pos (starEach es env))) Q E s :=
  wpAny_mono (h A s L env pos ok p) (fun v s' q => k v s' q.1 q.2 (p.pure q.1)) fun _ _ f => f.elim
theorem ET.use {e : Expr} {b : Bool} (h : ET prog w hk H n F look e b) {A : Around} {s : Shared} {L : Led} {env : Env} {Q : Bool → Shared → Prop} {E : Value → Shared → Prop} (ok : Ok n A) (p : Pre hk H F env look L s)
    (k : ∀ s', Pure H s s' → Pre hk H F env look (L.or (Fresh H s.heap s'.heap)) s' → Q b s') : wpAny (model prog w) A (isTrue e env (eval e env)) Q E s :=
  wpAny_mono (h A s L env ok p) (fun v s' q => by obtain ⟨rfl, q⟩ := q; exact k s' q (p.pure q)) fun _ _ f => f.elim

theorem Pure.post {s s' : Shared} {L : Led} {v : Value} {d : PD} (q : Pure H s s') (i : Is hk L v d) : Post hk H L s d v s' := ⟨q, i.mono fun _ _ => .inl⟩
theorem Post.step {s s' s'' : Shared} {L : Led} {v : Value} {d : PD} (q : Pure H s s') (p : Post hk H (L.or (Fresh H s.heap s'.heap)) s' d v s'') : Post hk H L s d v s'' :=
  ⟨q.trans p.1, p.2.step q.keep p.1.keep⟩

theorem Is.stepR {L : Led} {h h' h'' : Heap} {v : Value} {d : PD} (i : Is hk ((L.or (Fresh H h h')).or (Fresh H h' h'')) v d) (k : Keep H h h') (k2 : Keep H h' h'') : Is hk (L.or (Fresh H h h'')) v d := i.step k k2

theorem IsAll.later {L : Led} {h h' h'' : Heap} {v : List Value} {d : List PD} (i : IsAll hk (L.or (Fresh H h h')) v d) (k2 : Keep H h' h'') : IsAll hk (L.or (Fresh H h h'')) v d :=
  i.mono fun _ _ e => e.imp id fun e => e.right k2
theorem ES.nil : ES prog w hk H n F look [] [] := fun _ _ _ _ _ _ p => wpAny_items_nil ⟨.refl p.inv, .nil⟩
theorem ES.cons {e : Expr} {es : List Expr} {d : PD} {ds : List PD} (h : EV prog w hk H n F look e d) (t : ES prog w hk H n F look es ds)
    (he : ∀ env, starEach (e :: es) env = (false, eval e env) :: starEach es env := by intro _; rfl) : ES prog w hk H n F look (e :: es) (d :: ds) := fun A s L env pos ok p => by
  refine wpAny_items_cons (h.use ok p fun v s' q i p' => t.use ok p' fun vs s'' q' i' _ => ⟨q.trans q', .cons ?_ ?_⟩) (he env)
  · exact i.later q'.keep
  · exact i'.step q.keep q'.keep

theorem EV.name {x : Str} {pos : Pos} {d : PD} (h : look x = some d) (hd : (x == ("__debug__" : Str)) = false := by decide) : EV prog w hk H n F look (.Name x pos) d := fun A s L env _ p => by
  obtain ⟨v, r, i⟩ := p.view x d h
  exact wpAny_Name (r.load (by rw [p.scope]; exact p.kind) (Pure.post (.refl p.inv) i)) hd
theorem EV.int {i : Int} {k : Nat} {pos : Pos} : EV prog w hk H n F look (.Constant (.int i) k pos) (.int i) := fun _ _ _ _ _ p => wpAny_Constant_int (Pure.post (.toks p.inv _) (.int _ _))
theorem EV.str {x : Str} {k : Nat} {pos : Pos} : EV prog w hk H n F look (.Constant (.str x) k pos) (.str x) := fun _ _ _ _ _ p => wpAny_Constant_str (Pure.post (.toks p.inv _) (.str _ _))
theorem EV.none {k : Nat} {pos : Pos} : EV prog w hk H n F look (.Constant .none k pos) (.val .none) := fun _ _ _ _ _ p => wpAny_Constant_none (Pure.post (.refl p.inv) (.val _))
theorem EV.bool {b : Bool} {k : Nat} {pos : Pos} : EV prog w hk H n F look (.Constant (.bool b) k pos) (.val (.bool b)) := fun _ _ _ _ _ p => wpAny_Constant_bool (Pure.post (.refl p.inv) (.val _))

/-- a global name of the top's -/
theorem EV.glob {x : Str} {pos : Pos} {v : Value} {mg : Str → Option Value} {og : Obj} (hg : H.Ns mainGlobals mg) (ho : H.get? mainGlobals = some og) (hc : og.cls ≠ .none) (hv : mg x = some v) (hx : F.sc.names.lookup x |> (· == some .globalImplicit) := by rfl)
    (hd : (x == ("__debug__" : Str)) = false := by decide) : EV prog w hk H n F look (.Name x pos) (.val v) := fun A s L env _ p => by
  refine Name_function_global (by rw [p.scope]; exact p.kind) ?_ (loadGlobal_global (mg := mg) ?_ hv (Pure.post (.refl p.inv) (.val _))) hd
  · have := beq_iff_eq.mp hx
    unfold Env.kindOf; rw [p.scope]; exact this
  · rw [p.glob]; exact Ns.one hg fun o e => by rw [ho] at e; cases e; exact p.inv.get ho hc
theorem EV.blt {x : Str} {pos : Pos} {v : Value} {mg mb : Str → Option Value} {og ob : Obj} (hg : H.Ns mainGlobals mg) (ho : H.get? mainGlobals = some og) (hc : og.cls ≠ .none) (hm : mg x = .none)
    (hb : H.Ns builtinsNs mb) (hob : H.get? builtinsNs = some ob) (hcb : ob.cls ≠ .none) (hv : mb x = some v) (hx : F.sc.names.lookup x |> (· == some .globalImplicit) := by rfl)
    (hd : (x == ("__debug__" : Str)) = false := by decide) : EV prog w hk H n F look (.Name x pos) (.val v) := fun A s L env _ p => by
  refine Name_function_global (by rw [p.scope]; exact p.kind) ?_ (loadGlobal_builtin (mg := mg) (mb := mb) ?_ hm ?_ hv (Pure.post (.refl p.inv) (.val _))) hd
  · have := beq_iff_eq.mp hx
    unfold Env.kindOf; rw [p.scope]; exact this
  · rw [p.glob]; exact Ns.one hg fun o e => by rw [ho] at e; cases e; exact p.inv.get ho hc
  · rw [p.blt]; exact Ns.one hb fun o e => by rw [hob] at e; cases e; exact p.inv.get hob hcb

theorem Inv.push {h : Heap} (x : Inv H h) (o : Obj) : Inv H (h.push o) := x.all fun _ _ e => Heap.get?_push_of_some _ e
theorem Keep.push (h : Heap) (o : Obj) : Keep H h (h.push o) := .all fun _ _ e => Heap.get?_push_of_some _ e
theorem Pure.push {s : Shared} (x : Inv H s.heap) (o : Obj) : Pure H s { s with heap := s.heap.push o } := ⟨.push _ _, x.push o, fun _ _ e => e, id, rfl⟩
theorem Fresh.push {h : Heap} {o : Obj} (hf : o.isFreed = false) (hc : Good H h.objs.size o) : Fresh H h (h.push o) h.objs.size o := ⟨get_size h, Heap.get?_push_size _ hf, hc⟩

theorem EV.tup {es : List Expr} {ds : List PD} {k : Nat} {pos : Pos} (h : ES prog w hk H n F look es ds) (hl : ds.length ≤ sizeLine := by decide) : EV prog w hk H n F look (.Tuple es k pos) (.tup ds) := fun A s L env ok p => by
  refine wpAny_Tuple (h.use ok p fun vs s' q i p' => ⟨by rw [i.length]; exact hl, ?_⟩)
  refine ⟨q.trans (.push p'.inv _), ?_⟩
  refine .tup (n := 0) (vs := vs.toArray) (.inr (Fresh.left q.keep (Fresh.push rfl ⟨.inl (by simp), p'.inv.new (p'.inv.none (get_size _))⟩))) rfl rfl ?_
  exact IsAll.later i (.push _ _)
theorem EV.list {es : List Expr} {ds : List PD} {pos : Pos} (h : ES prog w hk H n F look es ds) (hl : ds.length ≤ sizeLine := by decide) : EV prog w hk H n F look (.List es pos) (.list ds) := fun A s L env ok p => by
  refine wpAny_List (h.use ok p fun vs s' q i p' => ⟨by rw [i.length]; exact hl, ?_⟩)
  refine ⟨q.trans (.push p'.inv _), ?_⟩
  refine .list (n := 0) (vs := vs.toArray) (.inr (Fresh.left q.keep (Fresh.push rfl ⟨.inl (by simp), p'.inv.new (p'.inv.none (get_size _))⟩))) rfl rfl ?_
  exact IsAll.later i (.push _ _)

theorem EV.ifT {t a b : Expr} {pos : Pos} {d : PD} (ht : ET prog w hk H n F look t true) (h : EV prog w hk H n F look a d) : EV prog w hk H n F look (.IfExp t a b pos) d := fun A s L env ok p =>
  wpAny_IfExp (ht.use ok p fun s' q p' => by
    show wpAny _ _ (eval a env) _ _ s'
    exact h.use ok p' fun v s'' q' i _ => Post.step q ⟨q', i⟩)
theorem EV.ifF {t a b : Expr} {pos : Pos} {d : PD} (ht : ET prog w hk H n F look t false) (h : EV prog w hk H n F look b d) : EV prog w hk H n F look (.IfExp t a b pos) d := fun A s L env ok p =>
  wpAny_IfExp (ht.use ok p fun s' q p' => by
    show wpAny _ _ (eval b env) _ _ s'
    exact h.use ok p' fun v s'' q' i _ => Post.step q ⟨q', i⟩)

/-- what a comparison answers -/
def CMP (prog : Program) (w : World) (hk : PD → Int) (H : Heap) (n : Nat) (op : CmpOp) (a b : PD) (r : Bool) : Prop :=
  ∀ (A : Around) (s : Shared) (L : Led) (u v : Value), Ok n A → Inv H s.heap → Holds H L s.heap → Is hk L u a → Is hk L v b → wpAny (model prog w) A (compareOp op u v) (fun t s' => t = .bool r ∧ Pure H s s') (fun _ _ => False) s

theorem EV.cmp {l r : Expr} {op : CmpOp} {pos : Pos} {a b : PD} {t : Bool} (hl : EV prog w hk H n F look l a) (hr : EV prog w hk H n F look r b) (hc : CMP prog w hk H n op a b t)
    (hm : behindInMarks op r = false := by with_unfolding_all rfl) : EV prog w hk H n F look (.Compare l [op] [r] pos) (.val (.bool t)) := fun A s L env ok p =>
  wpAny_Compare1 (hl.use ok p fun u s' q i p' => hr.use ok p' fun v s'' q' i' p'' => wpAny_mono (hc A s'' _ u v ok p''.inv p''.led (i.mono fun _ _ => .inl) i')
    (fun t' s₃ h => by obtain ⟨rfl, q''⟩ := h; exact Pure.post ((q.trans q').trans q'') (.val _)) fun _ _ f => f.elim) hm
theorem ET.cmp {l r : Expr} {op : CmpOp} {pos : Pos} {a b : PD} {t : Bool} (hl : EV prog w hk H n F look l a) (hr : EV prog w hk H n F look r b) (hc : CMP prog w hk H n op a b t)
    (hm : behindInMarks op r = false := by with_unfolding_all rfl) : ET prog w hk H n F look (.Compare l [op] [r] pos) t := fun A s L env ok p =>
  wpAny_isTrue_Compare1 (hl.use ok p fun u s' q i p' => hr.use ok p' fun v s'' q' i' p'' => wpAny_mono (hc A s'' _ u v ok p''.inv p''.led (i.mono fun _ _ => .inl) i')
    (fun t' s₃ h => by obtain ⟨rfl, q''⟩ := h; exact wpAny_truthy_bool ⟨rfl, (q.trans q').trans q''⟩) fun _ _ f => f.elim) hm
theorem ET.not {x : Expr} {pos : Pos} {b : Bool} (h : ET prog w hk H n F look x b) : ET prog w hk H n F look (.UnaryOp .Not x pos) (!b) := fun A s L env ok p =>
  wpAny_isTrue_Not (h.use ok p fun s' q _ => ⟨rfl, q⟩)

def EB (prog : Program) (w : World) (hk : PD → Int) (H : Heap) (n : Nat) (F : Fm) (look : Look) (op : BoolOp) (es : List Expr) (b : Bool) : Prop :=
  ∀ (A : Around) (s : Shared) (L : Led) (env : Env), Ok n A → Pre hk H F env look L s → wpAny (model prog w) A (allTrue op es env) (fun t s' => t = b ∧ Pure H s s') (fun _ _ => False) s
theorem ET.bool {op : BoolOp} {es : List Expr} {pos : Pos} {b : Bool} (h : EB prog w hk H n F look op es b) : ET prog w hk H n F look (.BoolOp op es pos) b := fun A s L env ok p => wpAny_isTrue_BoolOp (h A s L env ok p)
theorem EB.andNil : EB prog w hk H n F look .And [] true := fun _ _ _ _ _ p => wpAny_allTrue_And_nil ⟨rfl, .refl p.inv⟩
theorem EB.orNil : EB prog w hk H n F look .Or [] false := fun _ _ _ _ _ p => wpAny_allTrue_Or_nil ⟨rfl, .refl p.inv⟩
theorem EB.andT {x : Expr} {es : List Expr} {b : Bool} (h : ET prog w hk H n F look x true) (t : EB prog w hk H n F look .And es b) : EB prog w hk H n F look .And (x :: es) b := fun A s L env ok p =>
  wpAny_allTrue_And_cons (h.use ok p fun s' q p' => by
    show wpAny _ _ (allTrue .And es env) _ _ s'
    exact wpAny_mono (t A s' _ env ok p') (fun _ _ h => ⟨h.1, q.trans h.2⟩) fun _ _ f => f)
theorem EB.andF {x : Expr} {es : List Expr} (h : ET prog w hk H n F look x false) : EB prog w hk H n F look .And (x :: es) false := fun A s L env ok p =>
  wpAny_allTrue_And_cons (h.use ok p fun s' q p' => ⟨rfl, q⟩)
theorem EB.orT {x : Expr} {es : List Expr} (h : ET prog w hk H n F look x true) : EB prog w hk H n F look .Or (x :: es) true := fun A s L env ok p =>
  wpAny_allTrue_Or_cons (h.use ok p fun s' q p' => ⟨rfl, q⟩)
theorem EB.orF {x : Expr} {es : List Expr} {b : Bool} (h : ET prog w hk H n F look x false) (t : EB prog w hk H n F look .Or es b) : EB prog w hk H n F look .Or (x :: es) b := fun A s L env ok p =>
  wpAny_allTrue_Or_cons (h.use ok p fun s' q p' => by
    show wpAny _ _ (allTrue .Or es env) _ _ s'
    exact wpAny_mono (t A s' _ env ok p') (fun _ _ h => ⟨h.1, q.trans h.2⟩) fun _ _ f => f)

/-- the truth of a datum -/
def TRU (prog : Program) (w : World) (hk : PD → Int) (H : Heap) (d : PD) (b : Bool) : Prop :=
  ∀ (A : Around) (s : Shared) (L : Led) (u : Value), A.handled = .none → Inv H s.heap → Holds H L s.heap → Is hk L u d → wpAny (model prog w) A (truthy u) (fun t s' => t = b ∧ Pure H s s') (fun _ _ => False) s
theorem TRU.bool (b : Bool) : TRU prog w hk H (.val (.bool b)) b := fun A s L u _ x _ i => by cases i; exact wpAny_truthy_bool ⟨rfl, .refl x⟩
theorem TRU.none : TRU prog w hk H (.val .none) false := fun A s L u _ x _ i => by cases i; exact wpAny_pure ⟨rfl, .refl x⟩
theorem ET.val {e : Expr} {d : PD} {b : Bool} (h : EV prog w hk H n F look e d) (t : TRU prog w hk H d b)
    (he : ∀ env whole, isTrue e env whole = (do let v ← whole; standAt e.pos; holding [v] (truthy v)) := by intro _ _; rfl) : ET prog w hk H n F look e b := fun A s L env ok p =>
  wpAny_isTrue_value (h.use ok p fun v s' q i p' => wpAny_mono (t A s' _ v ok.handled p'.inv p'.led i) (fun _ _ h => ⟨h.1, q.trans h.2⟩) fun _ _ f => f) (he env _)
theorem EV.or2T {x y : Expr} {pos : Pos} {d : PD} (h : EV prog w hk H n F look x d) (t : TRU prog w hk H d true) : EV prog w hk H n F look (.BoolOp .Or [x, y] pos) d := fun A s L env ok p =>
  wpAny_Or2 (h.use ok p fun v s' q i p' => wpAny_mono (t A s' _ v ok.handled p'.inv p'.led i) (fun t' s'' h => by
    obtain ⟨rfl, q'⟩ := h
    exact ⟨q.trans q', i.later q'.keep⟩) fun _ _ f => f.elim)
theorem EV.or2F {x y : Expr} {pos : Pos} {d d' : PD} (h : EV prog w hk H n F look x d) (t : TRU prog w hk H d false) (g : EV prog w hk H n F look y d') : EV prog w hk H n F look (.BoolOp .Or [x, y] pos) d' := fun A s L env ok p =>
  wpAny_Or2 (h.use ok p fun v s' q i p' => wpAny_mono (t A s' _ v ok.handled p'.inv p'.led i) (fun t' s'' h => by
    obtain ⟨rfl, q'⟩ := h
    exact g.use ok (p'.pure q') fun v s₃ q₃ i₃ _ => Post.step q (Post.step q' ⟨q₃, i₃⟩)) fun _ _ f => f.elim)
theorem EV.and2F {x y : Expr} {pos : Pos} {d : PD} (h : EV prog w hk H n F look x d) (t : TRU prog w hk H d false) : EV prog w hk H n F look (.BoolOp .And [x, y] pos) d := fun A s L env ok p =>
  wpAny_And2 (h.use ok p fun v s' q i p' => wpAny_mono (t A s' _ v ok.handled p'.inv p'.led i) (fun t' s'' h => by
    obtain ⟨rfl, q'⟩ := h
    exact ⟨q.trans q', i.later q'.keep⟩) fun _ _ f => f.elim)
theorem EV.and2T {x y : Expr} {pos : Pos} {d d' : PD} (h : EV prog w hk H n F look x d) (t : TRU prog w hk H d true) (g : EV prog w hk H n F look y d') : EV prog w hk H n F look (.BoolOp .And [x, y] pos) d' := fun A s L env ok p =>
  wpAny_And2 (h.use ok p fun v s' q i p' => wpAny_mono (t A s' _ v ok.handled p'.inv p'.led i) (fun t' s'' h => by
    obtain ⟨rfl, q'⟩ := h
    exact g.use ok (p'.pure q') fun v s₃ q₃ i₃ _ => Post.step q (Post.step q' ⟨q₃, i₃⟩)) fun _ _ f => f.elim)

/-- None -/
def isNoneD : PD → Bool
  | .val v => v == .none
  | _ => false
theorem Is.isNone {L : Led} {v : Value} {d : PD} (i : Is hk L v d) : (v == .none) = isNoneD d := by
  cases i <;> rfl
theorem CMP.isNone {d : PD} : CMP prog w hk H n .Is d (.val .none) (isNoneD d) := fun A s L u v _ x _ i j => by
  cases j; exact is_none ⟨by rw [i.isNone], .refl x⟩
theorem CMP.isNotNone {d : PD} : CMP prog w hk H n .IsNot d (.val .none) (!isNoneD d) := fun A s L u v _ x _ i j => by
  cases j; exact isNot_none ⟨by rw [i.isNone], .refl x⟩
end
end Mine
end

section -- B3
open PySem PySem.Calls PySem.W PyProof.Rows
set_option maxRecDepth 100000
set_option linter.unusedVariables false
namespace Mine
section
variable {M : Model} {A : Around} {E : Value → Shared → Prop} {s : Shared}
theorem callWith_any {pos : Pos} {f : Value} {first : List Value} {args : List (Bool × Sem Value)} {kws : List (Option Str × Sem Value)} {Q : Value → Shared → Prop}
    (h : wpAny M A (evalArgs f true args kws) (fun a s₁ => wpAny M A (keeperOf f) (fun _ s₂ => wpAny M A (call f (first ++ a.pos) a.kw) Q E s₂) E s₁) E s) : wpAny M A (callWith pos f first args kws) Q E s := by
  unfold callWith
  refine wpAny_bind (wpAny_holding (wpAny_mono h (fun a s₁ h₁ => wpAny_bind (wpAny_standAt ?_)) fun _ _ x => x))
  refine wpAny_bind (wpAny_mono h₁ (fun kp s₂ h₂ => ?_) fun _ _ x => x)
  have tail : ∀ {t : Sem Value}, wpAny M A t Q E s₂ → wpAny M A (t >>= fun r => holding [r] point >>= fun _ => pure r) Q E s₂ :=
    fun ht => wpAny_bind (wpAny_mono ht (fun r s₂ hr => wpAny_bind (wpAny_holding (wpAny_point (wpAny_pure hr)))) fun _ _ x => x)
  have t1 : ∀ mk, wpAny M A (callMarked mk f (first ++ a.pos) a.kw) Q E s₂ := fun mk => by unfold callMarked; exact Calls.wpAny_keep h₂
  have t2 : ∀ l, wpAny M A (operate l (call f (first ++ a.pos) a.kw)) Q E s₂ := fun l => wpAny_operate' h₂
  cases hs : (args.any (·.1) || kws.any (·.1.isNone)) <;> cases kp <;>
    first
      | exact tail h₂
      | exact tail (t1 _)
      | exact tail (t2 _)
      | (refine tail ?_; split <;> first | exact h₂ | exact t1 _)
      | (simp only []; split <;> first | exact tail h₂ | exact tail (t1 _))
theorem evalArgs_any {f : Value} {args : List (Bool × Sem Value)} {kws : List (Option Str × Sem Value)} {Q : Args → Shared → Prop} (hp : args.any (·.1) = false) (hall : kws.all (·.1.isSome) = true)
    (h : wpAny M A (spliced args) (fun vs s₁ => wpAny M A (evalAll (kws.map (·.2))) (fun ks s₂ => Q ⟨vs, (kws.filterMap (·.1)).zip ks⟩ s₂) E s₁) E s) : wpAny M A (evalArgs f true args kws) Q E s := by
  cases args with
  | nil => exact evalArgs_kw_nil hall fun Γ p hΓ => h Γ p hΓ Γ p hΓ
  | cons x rest =>
    obtain ⟨b, t⟩ := x
    have hb : b = false := by simp at hp; exact hp.1
    subst hb
    exact evalArgs_kw hall h
end

section
variable {prog : Program} {w : World} {hk : PD → Int} {H : Heap} {n : Nat} {F : Fm} {look : Look}

/-- the keyword arguments -/
def EK (prog : Program) (w : World) (hk : PD → Int) (H : Heap) (n : Nat) (F : Fm) (look : Look) (kws : List Keyword) (ks : List (Str × PD)) : Prop :=
  (∀ pos env, (backToKw pos (keywordEach kws env)).all (·.1.isSome) = true ∧ (backToKw pos (keywordEach kws env)).filterMap (·.1) = ks.map (·.1)) ∧
  ∀ (A : Around) (s : Shared) (L : Led) (env : Env) (pos : Pos), Ok n A → Pre hk H F env look L s → wpAny (model prog w) A (evalAll ((backToKw pos (keywordEach kws env)).map (·.2))) (PostAll hk H L s (ks.map (·.2))) (fun _ _ => False) s
theorem EK.nil : EK prog w hk H n F look [] [] := ⟨fun _ _ => ⟨rfl, rfl⟩, fun _ _ _ _ _ _ p => wpAny_evalAll_nil ⟨.refl p.inv, .nil⟩⟩
theorem EK.cons {x : Str} {e : Expr} {kp : Pos} {kws : List Keyword} {d : PD} {ks : List (Str × PD)} (h : EV prog w hk H n F look e d) (t : EK prog w hk H n F look kws ks) : EK prog w hk H n F look (⟨some x, e, kp⟩ :: kws) ((x, d) :: ks) := by
  refine ⟨fun pos env => ⟨?_, ?_⟩, fun A s L env pos ok p => ?_⟩
  · have := (t.1 pos env).1
    show (_ && _) = true
    rw [Bool.and_eq_true]; exact ⟨rfl, this⟩
  · have := (t.1 pos env).2
    exact congrArg (x :: ·) this
  · show wpAny _ _ (evalAll ((do let v ← eval e env; standAt pos; pure v) :: (backToKw pos (keywordEach kws env)).map (·.2))) _ _ _
    refine wpAny_evalAll_cons (wpAny_bind (h.use ok p fun v s' q i p' => wpAny_bind (wpAny_standAt (wpAny_pure ?_))))
    refine wpAny_mono (t.2 A s' _ env pos ok p') (fun vs s'' h => ?_) fun _ _ f => f
    exact ⟨q.trans h.1, .cons (i.later h.1.keep) (h.2.step q.keep h.1.keep)⟩

/-- the keeper's look passes -/
def KP (prog : Program) (w : World) (hk : PD → Int) (H : Heap) (f : PD) : Prop := ∀ (A : Around) (s : Shared) (L : Led) (v : Value), Inv H s.heap → Holds H L s.heap → Is hk L v f → wpAny (model prog w) A (keeperOf v) (fun _ s' => s' = s) (fun _ _ => False) s
theorem KP.fn {a : Addr} {o : Obj} {fd : FuncData} (ho : H.get? a = some o) (hc : o.cls ≠ .none) (hd : o.data = .func fd) : KP prog w hk H (.val (.ref a)) := fun A s L v x _ i => by
  cases i
  unfold keeperOf
  refine wpAny_bind (wpAny_load (x.get ho hc) ?_)
  rw [hd]; exact wpAny_pure rfl
theorem KP.blt {id : String} : KP prog w hk H (.val (.builtin id)) := fun _ _ _ _ _ _ i => by cases i; exact wpAny_pure rfl
theorem KP.type {t : String} : KP prog w hk H (.val (.type t)) := fun _ _ _ _ _ _ i => by cases i; exact wpAny_pure rfl
theorem KP.clo {fd : FuncData} {fr : Option (Str × Str)} : KP prog w hk H (.clo fd fr) := fun A s L v x l i => by
  cases i with
  | clo c =>
    obtain ⟨o, fd, c, oc, vc, tc, h1, h2, h3, _⟩ := c
    unfold keeperOf
    refine wpAny_bind (wpAny_load (l _ _ h1).1 ?_)
    rw [h3]; exact wpAny_pure rfl

theorem EV.callF {fe : Expr} {es : List Expr} {kws : List Keyword} {pos : Pos} {f : PD} {ps : List PD} {ks : List (Str × PD)} {d : PD} (hf : EV prog w hk H n F look fe f) (ha : ES prog w hk H n F look es ps) (hkw : EK prog w hk H n F look kws ks) (kp : KP prog w hk H f)
    (fn : FN prog w hk H n f ps ks d)
    (hp : ∀ pos env, (backTo pos (starEach es env)).any (·.1) = false := by intro _ _; rfl)
    (harm : ∀ env, eval (.Call fe es kws pos) env = (do callWith pos (← eval fe env) [] (backTo pos (starEach es env)) (backToKw pos (keywordEach kws env))) := by intro _; rfl) :
    EV prog w hk H n F look (.Call fe es kws pos) d := fun A s L env ok p => by
  rw [harm]
  refine wpAny_bind (hf.use ok p fun v s' q i p' => ?_)
  refine callWith_any (evalArgs_any (hp pos env) (hkw.1 pos env).1 (ha.use ok p' fun vs s₁ q₁ i₁ p₁ => ?_))
  refine wpAny_mono (hkw.2 A s₁ _ env pos ok p₁) (fun kvs s₂ h₂ => ?_) fun _ _ f => f
  obtain ⟨q₂, i₂⟩ := h₂
  have p₂ := p₁.pure q₂
  have i' : Is hk (((L.or (Fresh H s.heap s'.heap)).or (Fresh H s'.heap s₁.heap)).or (Fresh H s₁.heap s₂.heap)) v f := i.mono fun _ _ e => .inl (.inl e)
  refine wpAny_mono (kp A s₂ _ v p₂.inv p₂.led i') (fun _ s₃ e => ?_) fun _ _ f => f.elim
  subst e
  rw [(hkw.1 pos env).2, List.nil_append]
  have hl : (ks.map (·.1)).length = kvs.length := by rw [List.length_map, i₂.length, List.length_map]
  refine wpAny_mono (fn A s₃ _ v vs ((ks.map (·.1)).zip kvs) ok p₂.inv p₂.led i' (i₁.mono fun _ _ => .inl) ?_ ?_) (fun r s₄ h₄ => ?_) fun _ _ f => f
  · have : ((ks.map (·.1)).zip kvs).map (·.2) = kvs := List.map_snd_zip (Nat.le_of_eq hl.symm)
    rw [this]; exact i₂
  · exact List.map_fst_zip (Nat.le_of_eq hl)
  · exact Post.step q (Post.step q₁ (Post.step q₂ h₄))
end
end Mine
end

section -- B4
open PySem PySem.Calls PySem.W PyProof.Rows
set_option maxRecDepth 100000
set_option linter.unusedVariables false
namespace Mine
/-- an object of the frame's own, still to be changed -/
inductive OwnO where
  | lst (xs : List PD)
  | dct (es : List (PD × PD))
  | ins (C dx : Addr)
abbrev Own := List (Addr × OwnO)
def OwnAt (hk : PD → Int) (L : Led) (h : Heap) (D : Addr) : OwnO → Prop
  | .lst xs => ∃ vs n, h.get? D = some ({ cls := .type "list", data := .seq vs n } : Obj) ∧ IsAll hk L vs.toList xs
  | .dct es => ∃ ds n, h.get? D = some ({ cls := .type "dict", data := .dict ds n } : Obj) ∧ IsEs hk L ds.toList es
  | .ins C dx => h.get? D = some (instObj C dx)
def OwnO.frozen : OwnO → PD
  | .lst xs => .list xs
  | .dct es => .dict es
  | .ins C dx => .ins C dx
def upd (look : Look) (x : Str) (d : PD) : Look := fun y => if y = x then some d else look y

/-- where a block began: the state, the part frozen then, what may be changed -/
structure Bs where
  s₀ : Shared
  L₀ : Led
  X : Addr → Prop
def Bs.own (B : Bs) (a : Addr) : Prop := B.s₀.heap.get? a = none ∨ B.X a

structure St (hk : PD → Int) (H : Heap) (B : Bs) (F : Fm) (wc : List Str) (env : Env) (look : Look) (own : Own) (L : Led) (s : Shared) : Prop where
  pre : Pre hk H F env look L s
  inv0 : Inv H B.s₀.heap
  no : ∀ a, B.X a → H.get? a = none
  pure : PureX H B.X B.s₀ s
  base : ∀ a o, L a o → B.L₀ a o ∨ B.own a
  sub : ∀ a o, B.L₀ a o → L a o
  ownAt : ∀ p ∈ own, OwnAt hk L s.heap p.1 p.2 ∧ B.own p.1 ∧ (∀ o, ¬ L p.1 o) ∧ p.1 ≠ env.locals ∧ ∀ x c, env.cells.lookup x = some c → c ≠ p.1
  nodup : (own.map (·.1)).Nodup
  loc : B.own env.locals ∧ (∀ o, ¬ L env.locals o) ∧ (∃ m, s.heap.Ns env.locals m)
  cel : ∀ x c, x ∈ wc → F.sc.names.lookup x = some .cell → env.cells.lookup x = some c → B.own c ∧ (∀ o, ¬ L c o) ∧ (∃ v, s.heap.IsCell c v)
  cells : (∀ x y c, x ∈ wc → env.cells.lookup x = some c → env.cells.lookup y = some c → y = x) ∧ ∀ x c, env.cells.lookup x = some c → c ≠ env.locals

section
variable {hk : PD → Int} {H : Heap} {s s' : Shared} {L : Led} {B : Bs} {F : Fm} {wc : List Str} {env : Env} {look : Look} {own : Own}
theorem St.mine (st : St hk H B F wc env look own L s) {a : Addr} (h : B.own a) : H.get? a = none := h.elim (fun e => st.inv0.none e) (st.no a)
theorem OwnAt.there {h : Heap} {D : Addr} {w : OwnO} (x : OwnAt hk L h D w) : ∃ o, h.get? D = some o := by
  cases w with
  | lst => obtain ⟨vs, n, e, _⟩ := x; exact ⟨_, e⟩
  | dct => obtain ⟨vs, n, e, _⟩ := x; exact ⟨_, e⟩
  | ins => exact ⟨_, x⟩
theorem OwnAt.noRec {h : Heap} {D : Addr} {w : OwnO} (x : OwnAt hk L h D w) : ∀ o y, h.get? D = some o → ¬ RecAt o y := by
  cases w with
  | lst => obtain ⟨vs, n, e, _⟩ := x; intro o y e'; rw [e] at e'; cases e'; exact RecAt.seq rfl y
  | dct => obtain ⟨vs, n, e, _⟩ := x; intro o y e'; rw [e] at e'; cases e'; exact RecAt.dict rfl y
  | ins C dx => intro o y e' ⟨vs, t, e2, _⟩; rw [show h.get? D = some (instObj C dx) from x] at e'; cases e'; cases e2
theorem OwnAt.mono {h h' : Heap} {D : Addr} {w : OwnO} {M : Led} (x : OwnAt hk L h D w) (hs : ∀ a o, L a o → M a o) (e : h'.get? D = h.get? D) : OwnAt hk M h' D w := by
  cases w with
  | lst => obtain ⟨vs, n, q, i⟩ := x; exact ⟨vs, n, e.trans q, i.mono hs⟩
  | dct => obtain ⟨vs, n, q, i⟩ := x; exact ⟨vs, n, e.trans q, i.mono hs⟩
  | ins => exact e.trans x
theorem OwnAt.keep {h h' : Heap} {D : Addr} {w : OwnO} {M : Led} (x : OwnAt hk L h D w) (hs : ∀ a o, L a o → M a o) (k : Keep H h h') : OwnAt hk M h' D w := by
  cases w with
  | lst => obtain ⟨vs, n, q, i⟩ := x; exact ⟨vs, n, k.keep _ _ q (.inl (by simp)), i.mono hs⟩
  | dct => obtain ⟨vs, n, q, i⟩ := x; exact ⟨vs, n, k.keep _ _ q (.inl (by simp)), i.mono hs⟩
  | ins => exact k.keep _ _ x (.inl (by simp [instObj]))
theorem Ns.there {h : Heap} {a : Addr} {m : Str → Option Value} (n : h.Ns a m) : ∃ o, h.get? a = some o := let ⟨o, _, _, e, _⟩ := n; ⟨o, e⟩
theorem IsCell.there {h : Heap} {a : Addr} {v : Option Value} (n : h.IsCell a v) : ∃ o, h.get? a = some o := let ⟨o, e, _⟩ := n; ⟨o, e⟩
theorem not_fresh {L : Led} {h h' : Heap} {a : Addr} (n : ∀ o, ¬ L a o) (t : ∃ o, h.get? a = some o) : ∀ o, ¬ (L.or (Fresh H h h')) a o := fun o e => e.elim (n o) fun f => by
  obtain ⟨o', q⟩ := t; rw [f.1] at q; cases q

/-- an expression has been reckoned -/
theorem St.step (st : St hk H B F wc env look own L s) (q : Pure H s s') : St hk H B F wc env look own (L.or (Fresh H s.heap s'.heap)) s' where
  pre := st.pre.pure q
  inv0 := st.inv0
  no := st.no
  pure := st.pure.step q
  base := fun a o e => e.elim (st.base a o) fun f => .inr (.inl (st.pure.none f.1))
  sub := fun a o e => .inl (st.sub a o e)
  ownAt := fun p hp => let ⟨a, b, c, d⟩ := st.ownAt p hp; ⟨a.keep (fun _ _ => .inl) q.keep, b, not_fresh c a.there, d⟩
  nodup := st.nodup
  loc := let ⟨a, b, m, c⟩ := st.loc; ⟨a, not_fresh b (Ns.there c), m, Ns.keep c q.keep⟩
  cel := fun x c h0 h1 h2 => let ⟨a, b, v, d⟩ := st.cel x c h0 h1 h2; ⟨a, not_fresh b (IsCell.there d), v, IsCell.keep d q.keep⟩
  cells := st.cells
theorem Holds.same {h h' : Heap} {a : Addr} (x : Holds H L h) (hs : Heap.SameBut a h h') (n : ∀ o, ¬ L a o) : Holds H L h' := fun b o e =>
  ⟨(hs.2 b fun q => n o (q ▸ e)).trans (x b o e).1, (x b o e).2⟩
theorem Ns.unique {h : Heap} {a : Addr} {m m' : Str → Option Value} (x : h.Ns a m) (y : h.Ns a m') : m = m' := by
  obtain ⟨o, es, ep, e, hd, _, hm⟩ := x
  obtain ⟨o', es', ep', e', hd', _, hm'⟩ := y
  rw [e] at e'; cases e'
  rw [hd] at hd'; cases hd'
  funext y; rw [← hm, hm']
/-- fewer names -/
theorem Pre.less {look' : Look} (p : Pre hk H F env look L s) (h : ∀ x d, look' x = some d → look x = some d) : Pre hk H F env look' L s :=
  { p with view := fun x d e => p.view x d (h x d e) }
theorem St.less {look' : Look} (st : St hk H B F wc env look own L s) (h : ∀ x d, look' x = some d → look x = some d) : St hk H B F wc env look' own L s :=
  { st with pre := st.pre.less h }

/-- where this block's own changes are reckoned from here -/
def St.there (own : Own) (wc : List Str) (F : Fm) (env : Env) (L : Led) (s : Shared) : Bs := ⟨s, L, fun a => a = env.locals ∨ (∃ p ∈ own, a = p.1) ∨ ∃ x, x ∈ wc ∧ F.sc.names.lookup x = some .cell ∧ env.cells.lookup x = some a⟩
theorem St.rebase (st : St hk H B F wc env look own L s) : St hk H (St.there own wc F env L s) F wc env look own L s where
  pre := st.pre
  inv0 := st.pre.inv
  no := fun a e => st.mine (by
    rcases e with e | ⟨p, hp, e⟩ | ⟨x, h1, h2, h3⟩
    · exact e ▸ st.loc.1
    · exact e ▸ (st.ownAt p hp).2.1
    · exact (st.cel x a h1 h2 h3).1)
  pure := .refl st.pre.inv
  base := fun _ _ => .inl
  sub := fun _ _ => id
  ownAt := fun p hp => let ⟨a, b, c⟩ := st.ownAt p hp; ⟨a, .inr (.inr (.inl ⟨p, hp, rfl⟩)), c⟩
  nodup := st.nodup
  loc := let ⟨a, b⟩ := st.loc; ⟨.inr (.inl rfl), b⟩
  cel := fun x c h0 h1 h2 => let ⟨a, b⟩ := st.cel x c h0 h1 h2; ⟨.inr (.inr (.inr ⟨x, h0, h1, h2⟩)), b⟩
  cells := st.cells
theorem St.back {look' : Look} {own' : Own} {L' : Led} (st : St hk H B F wc env look own L s) (st' : St hk H (St.there own wc F env L s) F wc env look' own' L' s') : St hk H B F wc env look' own' L' s' := by
  have up : ∀ a, (St.there own wc F env L s).own a → B.own a := fun a e => by
    rcases e with e | e
    · exact .inl (st.pure.none e)
    · rcases e with e | ⟨p, hp, e⟩ | ⟨x, h1, h2, h3⟩
      · exact e ▸ st.loc.1
      · exact e ▸ (st.ownAt p hp).2.1
      · exact (st.cel x a h1 h2 h3).1
  exact {
    pre := st'.pre
    inv0 := st.inv0
    no := st.no
    pure := st.pure.join st'.pure fun a e => up a (.inr e)
    base := fun a o e => (st'.base a o e).elim (st.base a o) fun e => .inr (up a e)
    sub := fun a o e => st'.sub a o (st.sub a o e)
    ownAt := fun p hp => let ⟨a, b, c⟩ := st'.ownAt p hp; ⟨a, up _ b, c⟩
    nodup := st'.nodup
    loc := let ⟨a, b⟩ := st'.loc; ⟨up _ a, b⟩
    cel := fun x c h0 h1 h2 => let ⟨a, b⟩ := st'.cel x c h0 h1 h2; ⟨up _ a, b⟩
    cells := st'.cells }

theorem St.store {M : Model} {A : Around} {E : Value → Shared → Prop} {x : Str} {v : Value} {d : PD} {Q : Unit → Shared → Prop} (st : St hk H B F wc env look own L s) (i : Is hk L v d)
    (hx : F.sc.names.lookup x = some .local ∨ (F.sc.names.lookup x = some .cell ∧ x ∈ wc)) (k : ∀ s', St hk H B F wc env (upd look x d) own L s' → Q () s') :
    wpAny M A (storeName env x v) Q E s := by
  have hkf : env.scope.kind = .function := by rw [st.pre.scope]; exact st.pre.kind
  have kind : ∀ y, env.kindOf y = F.sc.names.lookup y := fun y => by unfold Env.kindOf; rw [st.pre.scope]
  obtain ⟨la, lb, m, hn⟩ := st.loc
  have ne : ∀ y c, env.cells.lookup y = some c → c ≠ env.locals := st.cells.2
  rcases hx with hl | ⟨hl, hw⟩
  · refine wpAny_storeName_local ((kind x).trans hl) hn (fun h' hn' hs => k _ ?_) (by rw [hkf]; rfl)
    have th : ∃ o, h'.get? env.locals = some o := Ns.there hn'
    refine ⟨{ st.pre with inv := ?_, led := st.pre.led.same hs lb, cthere := fun y c e => (let ⟨o, e'⟩ := st.pre.cthere y c e; ⟨o, (hs.2 c (ne y c e)).trans e'⟩), view := fun y d' e => ?_ }, st.inv0, st.no, ?_, st.base, st.sub, fun p hp => ?_, st.nodup, ⟨la, lb, _, hn'⟩, fun y c h0 h1 h2 => ?_, st.cells⟩
    · exact st.pre.inv.same (st.mine la) (RecAt.ns hn) hs th
    · unfold upd at e
      by_cases hy : y = x
      · rw [if_pos hy] at e; cases e
        exact ⟨v, .inl ⟨by rw [hy]; exact (kind x).trans hl, _, hn', by simp [hy]⟩, i⟩
      · rw [if_neg hy] at e
        obtain ⟨v', r, i'⟩ := st.pre.view y d' e
        refine ⟨v', ?_, i'⟩
        rcases r with ⟨h1, m', h2, h3⟩ | ⟨h1, c, h3, h4⟩
        · exact .inl ⟨h1, _, hn', by rw [if_neg hy]; rw [Ns.unique hn h2]; exact h3⟩
        · exact .inr ⟨h1, c, h3, h4.sameBut hs (ne y c h3)⟩
    · exact st.pure.join (Y := fun a => a = env.locals) (.one st.pre.inv (st.mine la) (RecAt.ns hn) rfl hs th) fun a e => e ▸ la
    · obtain ⟨a, b, c, d1, d2⟩ := st.ownAt p hp
      exact ⟨a.mono (fun _ _ => id) (hs.2 _ d1), b, c, d1, d2⟩
    · obtain ⟨a, b, v', d'⟩ := st.cel y c h0 h1 h2
      exact ⟨a, b, v', d'.sameBut hs (ne y c h2)⟩
  · obtain ⟨c, hc⟩ := st.pre.has x (.inl hl)
    obtain ⟨ca, cb, v0, hv0⟩ := st.cel x c hw hl hc
    have hcl : c ≠ env.locals := st.cells.2 x c hc
    refine wpAny_storeName_cell hkf ((kind x).trans hl) hc hv0 fun h' hc' hs => k _ ?_
    have th : ∃ o, h'.get? c = some o := IsCell.there hc'
    have ne' : ∀ y c', y ≠ x → env.cells.lookup y = some c' → c' ≠ c := fun y c' hy hm q => hy (st.cells.1 x y c hw hc (q ▸ hm))
    refine ⟨{ st.pre with inv := ?_, led := st.pre.led.same hs cb, cthere := fun y c' e => ?_, view := fun y d' e => ?_ }, st.inv0, st.no, ?_, st.base, st.sub, fun p hp => ?_, st.nodup, ⟨la, lb, m, hn.sameBut hs (Ne.symm hcl)⟩, fun y c' h0 h1 h2 => ?_, st.cells⟩
    · exact st.pre.inv.same (st.mine ca) (RecAt.cell hv0) hs th
    · obtain ⟨o, e'⟩ := st.pre.cthere y c' e
      by_cases hq : c' = c
      · exact hq ▸ th
      · exact ⟨o, (hs.2 c' hq).trans e'⟩
    · unfold upd at e
      by_cases hy : y = x
      · rw [if_pos hy] at e; cases e
        exact ⟨v, .inr ⟨.inl (by rw [hy]; exact (kind x).trans hl), c, by rw [hy]; exact hc, hc'⟩, i⟩
      · rw [if_neg hy] at e
        obtain ⟨v', r, i'⟩ := st.pre.view y d' e
        refine ⟨v', ?_, i'⟩
        rcases r with ⟨h1, m', h2, h3⟩ | ⟨h1, c', h3, h4⟩
        · exact .inl ⟨h1, _, h2.sameBut hs (Ne.symm hcl), h3⟩
        · exact .inr ⟨h1, c', h3, h4.sameBut hs (ne' y c' hy h3)⟩
    · exact st.pure.join (Y := fun a => a = c) (.one (t := s.toks) st.pre.inv (st.mine ca) (RecAt.cell hv0) rfl hs th) fun a e => e ▸ ca
    · obtain ⟨a, b, c1, d1, d2⟩ := st.ownAt p hp
      exact ⟨a.mono (fun _ _ => id) (hs.2 _ (Ne.symm (d2 x c hc))), b, c1, d1, d2⟩
    · by_cases hy : y = x
      · subst hy; rw [hc] at h2; cases h2
        exact ⟨ca, cb, _, hc'⟩
      · obtain ⟨a, b, v', d'⟩ := st.cel y c' h0 h1 h2
        exact ⟨a, b, v', d'.sameBut hs (ne' y c' hy h2)⟩

def upds (look : Look) : List Str → List PD → Look
  | x :: xs, d :: ds => upds (upd look x d) xs ds
  | _, _ => look
/-- names as targets -/
def nameTs : List (Str × Pos) → List Expr := List.map fun p => .Name p.1 p.2
theorem St.stores {M : Model} {A : Around} {E : Value → Shared → Prop} {Q : Unit → Shared → Prop} : ∀ {xs : List (Str × Pos)} {vs : List Value} {ds : List PD} {look : Look} {s : Shared}, St hk H B F wc env look own L s → IsAll hk L vs ds → xs.length = ds.length →
    (∀ x ∈ xs, F.sc.names.lookup x.1 = some .local ∨ (F.sc.names.lookup x.1 = some .cell ∧ x.1 ∈ wc)) → (∀ s', St hk H B F wc env (upds look (xs.map (·.1)) ds) own L s' → Q () s') → wpAny M A (assignInOrder ((assignEach (nameTs xs) env).map (·.2)) vs) Q E s
  | [], vs, ds, look, s, st, i, hl, hx, k => by
    cases ds with
    | nil => cases i; exact wpAny_assignInOrder_none (k s st)
    | cons => cases hl
  | (x, px) :: xs, vs, ds, look, s, st, i, hl, hx, k => by
    cases ds with
    | nil => cases hl
    | cons d ds =>
      cases i with
      | cons i1 i2 =>
        refine assignInOrder_cons (wpAny_assign_Name (st.store i1 (hx _ (.head _)) fun s' st' => ?_))
        exact St.stores st' i2 (Nat.succ.inj hl) (fun y hy => hx y (.tail _ hy)) k
/-- the targets of a tuple taken apart -/
theorem St.unpack {prog : Program} {w : World} {A : Around} {E : Value → Shared → Prop} {Q : Unit → Shared → Prop} {xs : List (Str × Pos)} {kk : Nat} {pos : Pos} {T : Addr} {vals : Array Value} {ds : List PD} (hh : A.handled = none) (st : St hk H B F wc env look own L s) (ht : s.heap.IsTuple T vals) (i : IsAll hk L vals.toList ds) (hl : xs.length = ds.length)
    (hx : ∀ x ∈ xs, F.sc.names.lookup x.1 = some .local ∨ (F.sc.names.lookup x.1 = some .cell ∧ x.1 ∈ wc)) (k : ∀ s' L', (∀ a o, L a o → L' a o) → St hk H B F wc env (upds look (xs.map (·.1)) ds) own L' s' → Q () s') : wpAny (model prog w) A (assign (.Tuple (nameTs xs) kk pos) env (.ref T)) Q E s := by
  have hlen : vals.size = ds.length := by rw [← i.length, Array.length_toList]
  have e1 : (assignEach (nameTs xs) env).length = xs.length := by
    clear hl hx k
    induction xs with
    | nil => rfl
    | cons y r ih => exact congrArg (· + 1) ih
  have e2 : (assignEach (nameTs xs) env).findIdx? (·.1) = none := by
    clear hl hx k e1
    induction xs with
    | nil => rfl
    | cons y r ih =>
      show List.findIdx? _ ((false, _) :: assignEach (nameTs r) env) = none
      rw [List.findIdx?_cons, ih]; rfl
  refine wpAny_assign_Tuple hh ht (by rw [e1, hl, hlen]) e2 fun h' he => ?_
  have q : Pure H s { s with heap := h' } := .all (t := s.toks) st.pre.inv fun b o e => he b o (Nat.ne_of_lt (Heap.lt_size e)) e
  exact St.stores (st.step q) (i.mono fun _ _ => .inl) hl hx fun s' st' => k s' _ (fun _ _ => .inl) st'
theorem St.tuple (st : St hk H B F wc env look own L s) {v : Value} {ds : List PD} (i : Is hk L v (.tup ds)) : ∃ T vals, v = .ref T ∧ s.heap.IsTuple T vals ∧ IsAll hk L vals.toList ds := by
  cases i with
  | tup h1 h2 h3 h4 => exact ⟨_, _, rfl, ⟨_, (st.pre.led _ _ h1).1, h2, _, h3⟩, h4⟩

/-- a made object is changed no more -/
theorem St.freeze {D : Addr} {x : OwnO} (st : St hk H B F wc env look ((D, x) :: own) L s) : ∃ L', St hk H B F wc env look own L' s ∧ Is hk L' (.ref D) x.frozen ∧ (∀ a o, L a o → L' a o) ∧ ∀ a o, L' a o → L a o ∨ a = D := by
  obtain ⟨o, ho⟩ : ∃ o, s.heap.get? D = some o := (st.ownAt _ (.head _)).1.there
  have hn := List.nodup_cons.mp st.nodup
  obtain ⟨a, b, c, d1, d2⟩ := st.ownAt _ (.head _)
  have sol0 : Solid H D o := by
    cases x with
    | lst => obtain ⟨vs, n, e, _⟩ := a; rw [ho] at e; cases e; exact .inl (by simp)
    | dct => obtain ⟨vs, n, e, _⟩ := a; rw [ho] at e; cases e; exact .inl (by simp)
    | ins C dx => rw [show s.heap.get? D = some (instObj C dx) from a] at ho; cases ho; exact .inl (by simp [instObj])
  have sol : Good H D o := ⟨sol0, st.pre.inv.new (st.mine b)⟩
  refine ⟨L.or fun b o' => b = D ∧ o' = o, ⟨{ st.pre with led := st.pre.led.or ?_, view := fun y d' e => ?_ }, st.inv0, st.no, st.pure, fun b o' e => ?_, fun b o' e => .inl (st.sub b o' e), fun p hp => ?_, hn.2, ?_, fun y c' h0 h1 h2 => ?_, st.cells⟩, ?_, fun _ _ => .inl, fun a o e => e.imp id And.left⟩
  · rintro b o' ⟨rfl, rfl⟩; exact ⟨ho, sol⟩
  · obtain ⟨v, r, i⟩ := st.pre.view y d' e; exact ⟨v, r, i.mono fun _ _ => .inl⟩
  · rcases e with e | ⟨rfl, rfl⟩
    · exact st.base b o' e
    · exact .inr b
  · obtain ⟨a', b', c', d1', d2'⟩ := st.ownAt p (.tail _ hp)
    refine ⟨a'.mono (fun _ _ => .inl) rfl, b', fun o' e => ?_, d1', d2'⟩
    rcases e with e | ⟨e, _⟩
    · exact c' o' e
    · exact hn.1 (List.mem_map.mpr ⟨p, hp, e⟩)
  · obtain ⟨la, lb, m, hm⟩ := st.loc
    refine ⟨la, fun o' e => ?_, m, hm⟩
    rcases e with e | ⟨e, _⟩
    · exact lb o' e
    · exact d1 e.symm
  · obtain ⟨ca, cb, v, hv⟩ := st.cel y c' h0 h1 h2
    refine ⟨ca, fun o' e => ?_, v, hv⟩
    rcases e with e | ⟨e, _⟩
    · exact cb o' e
    · exact d2 y c' h2 e
  · cases x with
    | lst xs =>
      obtain ⟨vs, n, e, i⟩ := a; rw [ho] at e; cases e
      exact .list (.inr ⟨rfl, rfl⟩) rfl rfl (i.mono fun _ _ => .inl)
    | dct es =>
      obtain ⟨vs, n, e, i⟩ := a; rw [ho] at e; cases e
      exact .dict (.inr ⟨rfl, rfl⟩) ⟨rfl, rfl, rfl⟩ rfl (i.mono fun _ _ => .inl)
    | ins C dx =>
      rw [show s.heap.get? D = some (instObj C dx) from a] at ho; cases ho
      exact .ins (.inr ⟨rfl, rfl⟩)
end
end Mine
end

section -- B5
open PySem PySem.Calls PySem.W PyProof.Rows
set_option maxRecDepth 100000
set_option linter.unusedVariables false
namespace Mine
/-- how a block may end -/
structure Goal where
  N : Look → Own → Prop
  C : Look → Own → Prop
  R : PD → Own → Prop
def Ends (hk : PD → Int) (H : Heap) (B : Bs) (F : Fm) (wc : List Str) (env : Env) (G : Goal) (f : Flow) (s' : Shared) : Prop :=
  match f with
  | .ret v => ∃ look' own' L' d, G.R d own' ∧ St hk H B F wc env look' own' L' s' ∧ Is hk L' v d
  | .brk => False
  | .next => ∃ look' own' L', G.N look' own' ∧ St hk H B F wc env look' own' L' s'
  | .cont => ∃ look' own' L', G.C look' own' ∧ St hk H B F wc env look' own' L' s'
def EX (prog : Program) (w : World) (hk : PD → Int) (H : Heap) (n : Nat) (F : Fm) (wc : List Str) (look : Look) (own : Own) (ss : List Stmt) (G : Goal) : Prop :=
  ∀ (A : Around) (B : Bs) (s : Shared) (L : Led) (env : Env), Ok n A → St hk H B F wc env look own L s → wpAny (model prog w) A (execs ss env) (Ends hk H B F wc env G) (fun _ _ => False) s
/-- one statement; the rest behind it -/
def EX1 (prog : Program) (w : World) (hk : PD → Int) (H : Heap) (n : Nat) (F : Fm) (wc : List Str) (look : Look) (own : Own) (t : Stmt) (G : Goal) : Prop :=
  ∀ (A : Around) (B : Bs) (s : Shared) (L : Led) (env : Env), Ok n A → St hk H B F wc env look own L s → wpAny (model prog w) A (exec t env) (Ends hk H B F wc env G) (fun _ _ => False) s
/-- a target takes the datum -/
def TG (prog : Program) (w : World) (hk : PD → Int) (H : Heap) (F : Fm) (wc : List Str) (t : Expr) (d : PD) (f : Look → Look) : Prop :=
  ∀ (A : Around) (B : Bs) (s : Shared) (L : Led) (env : Env) (look : Look) (own : Own) (v : Value) (Q : Unit → Shared → Prop) (E : Value → Shared → Prop), A.handled = none → St hk H B F wc env look own L s → Is hk L v d →
    (∀ s' L', (∀ a o, L a o → L' a o) → St hk H B F wc env (f look) own L' s' → Q () s') → wpAny (model prog w) A (assign t env v) Q E s

section
variable {prog : Program} {w : World} {hk : PD → Int} {H : Heap} {n : Nat} {F : Fm} {wc : List Str} {look : Look} {own : Own} {G : Goal}

theorem TG.name {x : Str} {px : Pos} {d : PD} (hx : F.sc.names.lookup x = some .local ∨ (F.sc.names.lookup x = some .cell ∧ x ∈ wc) := by first | exact .inl rfl | exact .inr ⟨rfl, by simp⟩) : TG prog w hk H F wc (.Name x px) d (fun l => upd l x d) :=
  fun A B s L env look own v Q E hh st i k => wpAny_assign_Name (st.store i hx fun s' st' => k s' L (fun _ _ => id) st')
theorem TG.tup {xs : List (Str × Pos)} {kk : Nat} {pos : Pos} {ds : List PD} (hl : xs.length = ds.length := by rfl) (hx : ∀ x ∈ xs, F.sc.names.lookup x.1 = some .local ∨ (F.sc.names.lookup x.1 = some .cell ∧ x.1 ∈ wc)) :
    TG prog w hk H F wc (.Tuple (nameTs xs) kk pos) (.tup ds) (fun l => upds l (xs.map (·.1)) ds) := fun A B s L env look own v Q E hh st i k => by
  obtain ⟨T, vals, rfl, ht, iv⟩ := st.tuple i
  exact st.unpack hh ht iv hl hx k

theorem EX.nil (h : G.N look own) : EX prog w hk H n F wc look own [] G := fun _ _ _ L _ _ st => wpAny_execs_nil ⟨look, own, L, h, st⟩
theorem EX.step {t : Stmt} {rest : List Stmt} (h : EX1 prog w hk H n F wc look own t { G with N := fun l o => EX prog w hk H n F wc l o rest G }) : EX prog w hk H n F wc look own (t :: rest) G := fun A B s L env ok st =>
  wpAny_execs_cons (wpAny_mono (h A B s L env ok st) (fun f s' e => by
    cases f with
    | next => obtain ⟨l, o, L', e1, e2⟩ := e; exact e1 A B s' L' env ok e2
    | brk => exact e
    | cont => exact e
    | ret v => exact e) fun _ _ f => f)
theorem EX1.assign {x : Str} {p' pos : Pos} {e : Expr} {d1 : PD} (h : EV prog w hk H n F look e d1) (k : G.N (upd look x d1) own)
    (hx : F.sc.names.lookup x = some .local ∨ (F.sc.names.lookup x = some .cell ∧ x ∈ wc) := by first | exact .inl rfl | exact .inr ⟨rfl, by simp⟩)
    (hs : ∀ env, swapsWith e (some (.Name x p')) pos.line env = pure false := by intro _; rfl) : EX1 prog w hk H n F wc look own (.Assign [.Name x p'] e pos) G := fun A B s L env ok st =>
  wpAny_Assign_Name (h.use ok st.pre fun v s' q i _ => (st.step q).store i hx fun s'' st'' => ⟨_, _, _, k, st''⟩) (hs env)
theorem EX.assign {x : Str} {p' pos : Pos} {e : Expr} {d1 : PD} {rest : List Stmt} (h : EV prog w hk H n F look e d1) (k : EX prog w hk H n F wc (upd look x d1) own rest G)
    (hx : F.sc.names.lookup x = some .local ∨ (F.sc.names.lookup x = some .cell ∧ x ∈ wc) := by first | exact .inl rfl | exact .inr ⟨rfl, by simp⟩)
    (hs : ∀ env, swapsWith e (some (.Name x p')) pos.line env = pure false := by intro _; rfl) : EX prog w hk H n F wc look own (.Assign [.Name x p'] e pos :: rest) G := .step (.assign h k hx hs)
theorem EX.ret {e : Expr} {pos : Pos} {rest : List Stmt} {d : PD} (h : EV prog w hk H n F look e d) (k : G.R d own) : EX prog w hk H n F wc look own (.Return (some e) pos :: rest) G := fun A B s L env ok st =>
  wpAny_execs_cons (wpAny_Return_some (h.use ok st.pre fun v s' q i p' => ⟨_, _, _, _, k, st.step q, i⟩))
theorem EX.ifT {t : Expr} {a b rest : List Stmt} {pos : Pos} (ht : ET prog w hk H n F look t true) (h : EX prog w hk H n F wc look own a { G with N := fun l o => EX prog w hk H n F wc l o rest G }) :
    EX prog w hk H n F wc look own (.If t a b pos :: rest) G := .step fun A B s L env ok st =>
  wpAny_If (ht.use ok st.pre fun s' q _ => by
    show wpAny _ _ (execs a env) _ _ s'
    exact h A B s' _ env ok (st.step q))
theorem EX.ifF {t : Expr} {a b rest : List Stmt} {pos : Pos} (ht : ET prog w hk H n F look t false) (h : EX prog w hk H n F wc look own b { G with N := fun l o => EX prog w hk H n F wc l o rest G }) :
    EX prog w hk H n F wc look own (.If t a b pos :: rest) G := .step fun A B s L env ok st =>
  wpAny_If (ht.use ok st.pre fun s' q _ => by
    show wpAny _ _ (execs b env) _ _ s'
    exact h A B s' _ env ok (st.step q))
theorem EX.cont {pos : Pos} {rest : List Stmt} (h : G.C look own) : EX prog w hk H n F wc look own (.Continue pos :: rest) G := fun A B s L env ok st =>
  wpAny_execs_cons (wpAny_Continue ⟨look, own, L, h, st⟩)
/-- a tuple taken apart into names -/
theorem EX.unpack {xs : List (Str × Pos)} {kk : Nat} {tpos pos : Pos} {e : Expr} {ds : List PD} {rest : List Stmt} (h : EV prog w hk H n F look e (.tup ds)) (k : EX prog w hk H n F wc (upds look (xs.map (·.1)) ds) own rest G)
    (hx : ∀ x ∈ xs, F.sc.names.lookup x.1 = some .local ∨ (F.sc.names.lookup x.1 = some .cell ∧ x.1 ∈ wc)) (hl : xs.length = ds.length := by rfl)
    (hs : ∀ env, swapsWithSole [.Tuple (nameTs xs) kk tpos] e pos.line env = pure false := by intro _; rfl) (hw : ∀ env, swappedStores [.Tuple (nameTs xs) kk tpos] e env = pure none := by intro _; rfl) :
    EX prog w hk H n F wc look own (.Assign [.Tuple (nameTs xs) kk tpos] e pos :: rest) G := .step fun A B s L env ok st =>
  Assign_Tuple (h.use ok st.pre fun v s' q i _ => by
    obtain ⟨T, vals, rfl, ht, iv⟩ := (st.step q).tuple i
    exact (st.step q).unpack ok.handled ht iv hl hx fun s'' L'' _ st'' => ⟨_, _, _, k, st''⟩) (hs env) (hw env)
/-- what a name that bore the made object bears from now on -/
theorem EX.freeze {ss : List Stmt} {x : Str} {D : Addr} {y : OwnO} (hx : look x = some (.val (.ref D)))
    (h : EX prog w hk H n F wc (upd look x y.frozen) own ss G) : EX prog w hk H n F wc look ((D, y) :: own) ss G := fun A B s L env ok st => by
  obtain ⟨L', st', i, _⟩ := st.freeze
  refine h A B s L' env ok { st' with pre := { st'.pre with view := fun z d' e => ?_ } }
  unfold upd at e
  by_cases hz : z = x
  · rw [if_pos hz] at e; cases e
    subst hz
    obtain ⟨v, r, iv⟩ := st'.pre.view _ _ hx
    cases iv
    exact ⟨_, r, i⟩
  · rw [if_neg hz] at e; exact st'.pre.view z d' e
theorem EX.less {look' : Look} {ss : List Stmt} (h : EX prog w hk H n F wc look' own ss G) (hl : ∀ x d, look' x = some d → look x = some d) : EX prog w hk H n F wc look own ss G := fun A B s L env ok st => h A B s L env ok (st.less hl)

theorem lookup_none {α : Type} : ∀ {l : List (Str × α)} {x : Str}, x ∉ l.map (·.1) → l.lookup x = none
  | [], _, _ => rfl
  | (y, v) :: r, x, h => by
    have h' : x ≠ y ∧ x ∉ r.map (·.1) := by simpa using h
    rw [List.lookup_cons]
    have : (x == y) = false := by simpa using h'.1
    rw [this]; exact lookup_none h'.2
theorem bindL_off (ko : Str → Option NameKind) : ∀ (b : List (Str × Value)) (m : Str → Option Value) (x : Str), x ∉ b.map (·.1) → bindL ko b m x = m x
  | [], _, _, _ => rfl
  | (y, v) :: r, m, x, h => by
    have h' : x ≠ y ∧ x ∉ r.map (·.1) := by simpa using h
    rw [bindL, bindL_off ko r _ x h'.2]
    split
    · simp [h'.1]
    · rfl
theorem bindC_off (ko : Str → Option NameKind) : ∀ (b : List (Str × Value)) (m : Str → Option Value) (x : Str), x ∉ b.map (·.1) → bindC ko b m x = m x
  | [], _, _, _ => rfl
  | (y, v) :: r, m, x, h => by
    have h' : x ≠ y ∧ x ∉ r.map (·.1) := by simpa using h
    rw [bindC, bindC_off ko r _ x h'.2]
    split
    · rfl
    · simp [h'.1]
theorem bindL_at (ko : Str → Option NameKind) : ∀ (b : List (Str × Value)) (m : Str → Option Value) (x : Str) (v : Value), (b.map (·.1)).Nodup → b.lookup x = some v → ko x = some .local → bindL ko b m x = some v
  | (y, v') :: r, m, x, v, hn, h, hk => by
    have hn' := List.nodup_cons.mp hn
    rw [List.lookup_cons] at h
    rw [bindL]
    cases q : x == y with
    | true =>
      rw [q] at h; cases h
      have e := beq_iff_eq.mp q; subst e
      rw [bindL_off ko r _ _ hn'.1, if_pos hk]; simp
    | false =>
      rw [q] at h
      exact bindL_at ko r _ x v hn'.2 h hk
theorem bindC_at (ko : Str → Option NameKind) : ∀ (b : List (Str × Value)) (m : Str → Option Value) (x : Str) (v : Value), (b.map (·.1)).Nodup → b.lookup x = some v → ko x ≠ some .local → bindC ko b m x = some v
  | (y, v') :: r, m, x, v, hn, h, hk => by
    have hn' := List.nodup_cons.mp hn
    rw [List.lookup_cons] at h
    rw [bindC]
    cases q : x == y with
    | true =>
      rw [q] at h; cases h
      have e := beq_iff_eq.mp q; subst e
      rw [bindC_off ko r _ _ hn'.1, if_neg hk]; simp
    | false =>
      rw [q] at h
      exact bindC_at ko r _ x v hn'.2 h hk
theorem cellsFrom_has : ∀ (names : List (Str × NameKind)) (n : Nat) (acc : List (Str × Addr)) (x : Str), (x, NameKind.cell) ∈ names ∨ (acc.lookup x).isSome = true → ((cellsFrom n names acc).lookup x).isSome = true
  | [], _, _, _, h => h.elim (fun e => nomatch e) id
  | (y, k) :: r, n, acc, x, h => by
    unfold cellsFrom
    by_cases hk : (k == NameKind.cell) = true
    · rw [if_pos hk]
      refine cellsFrom_has r (n + 1) ((y, n) :: acc) x ?_
      by_cases hy : x = y
      · subst hy; exact .inr (by simp [List.lookup_cons])
      · have : (x == y) = false := by simpa using hy
        refine h.imp (fun e => ?_) fun e => by rw [List.lookup_cons, this]; exact e
        rcases List.mem_cons.mp e with e | e
        · cases e; exact absurd rfl hy
        · exact e
    · rw [if_neg hk]
      refine cellsFrom_has r n acc x (h.imp (fun e => ?_) id)
      rcases List.mem_cons.mp e with e | e
      · cases e; exact absurd rfl hk
      · exact e
theorem lookup_zip {hk : PD → Int} {L : Led} : ∀ {b : List (Str × Value)} {ds : List PD} {x : Str} {d : PD}, IsAll hk L (b.map (·.2)) ds → ((b.map (·.1)).zip ds).lookup x = some d → ∃ v, b.lookup x = some v ∧ Is hk L v d
  | [], _, x, d, _, h => by simp at h
  | (y, v) :: r, ds, x, d, i, h => by
    cases i with
    | cons i1 i2 =>
      rw [List.map_cons, List.zip_cons_cons, List.lookup_cons] at h
      rw [List.lookup_cons]
      cases q : x == y with
      | true => rw [q] at h; cases h; exact ⟨v, rfl, i1⟩
      | false => rw [q] at h; exact lookup_zip i2 h

/-- the facts of a def of the top's -/
structure DefAt (H : Heap) (a : Addr) (fd : FuncData) (body : List Stmt) (c : Addr) : Prop where
  obj : ∃ o, H.get? a = some o ∧ o.cls ≠ .none ∧ o.data = .func fd
  code : ∃ oc vs t, fd.code = .ref c ∧ H.get? c = some oc ∧ oc.cls ≠ .none ∧ oc.data = .fields vs ∧ vs[1]? = some (.str fd.qualname t)
  clo : fd.closure = []
  body : fd.body = .stmts body
  co : fd.scope.isCoroutine = false
  gen : fd.scope.isGenerator = false
  kind : fd.scope.kind = .function
  free : ∀ x, fd.scope.names.lookup x ≠ some .free
  glob : fd.globals = mainGlobals
  blt : fd.builtins = builtinsNs
/-- the arguments are bound -/
def BINDS (prog : Program) (w : World) (hk : PD → Int) (H : Heap) (fd : FuncData) (ps : List PD) (ks : List (Str × PD)) (names : List Str) (ds : List PD) : Prop :=
  ∀ (A : Around) (s : Shared) (L : Led) (vs : List Value) (kvs : List (Str × Value)), Inv H s.heap → Holds H L s.heap → IsAll hk L vs ps → IsAll hk L (kvs.map (·.2)) (ks.map (·.2)) → kvs.map (·.1) = ks.map (·.1) →
    wpAny (model prog w) A (bindArgs fd ⟨vs, kvs⟩) (fun b s' => Pure H s s' ∧ b.map (·.1) = names ∧ IsAll hk (L.or (Fresh H s.heap s'.heap)) (b.map (·.2)) ds) (fun _ _ => False) s

theorem Ends.post {B : Bs} {env : Env} {s' : Shared} {v : Value} {d : PD} (hX : ∀ a, ¬ B.X a) (h : Ends hk H B F wc env ⟨fun _ _ => False, fun _ _ => False, fun d' _ => d' = d⟩ (.ret v) s') : Pure H B.s₀ s' ∧ Is hk (B.L₀.or (Fresh H B.s₀.heap s'.heap)) v d := by
  obtain ⟨_, _, L', d', rfl, st, i⟩ := h
  refine ⟨st.pure.pure fun a e => (hX a e).elim, i.mono fun b o' e' => ?_⟩
  rcases st.base b o' e' with e | e | e
  · exact .inl e
  · exact .inr ⟨e, st.pre.led _ _ e'⟩
  · exact (hX _ e).elim

/-- the frame of a call, as it begins -/
theorem FN.begin {q : Option Str} {fd : FuncData} {b : List (Str × Value)} {names : List Str} {ds : List PD} {L : Led} {s₁ s' : Shared} {env : Env} {c : Addr} (hkd : fd.scope.kind = .function) (hfree : ∀ x, fd.scope.names.lookup x ≠ some .free) (hgb : fd.globals = mainGlobals) (hbb : fd.builtins = builtinsNs)
    (hcode : fd.code = .ref c) (inv : Inv H s₁.heap) (led₁ : Holds H L s₁.heap) (hbn : b.map (·.1) = names) (hbi : IsAll hk L (b.map (·.2)) ds) (hn : names.Nodup) (hkind : ∀ x ∈ names, fd.scope.names.lookup x = some .local ∨ fd.scope.names.lookup x = some .cell)
    (hle : (env.scope = fd.scope ∧ env.locals = s₁.heap.objs.size ∧ env.globals = fd.globals ∧ env.builtins = fd.builtins ∧ env.code = fd.code) ∧ env.cells = cellsFrom (s₁.heap.objs.size + 1) fd.scope.names [])
    (ic : InCallC s₁ env.locals (bindL env.kindOf b fun _ => none) env.cells (bindC env.kindOf b fun _ => none) s') (hq : ∀ z, q = some z → env.qual = z) :
    St hk H ⟨s₁, L, fun _ => False⟩ ⟨fd.scope, some c, q⟩ wc env (fun x => (names.zip ds).lookup x) [] L s' := by
  obtain ⟨⟨hsc, hlc, hgl, hbl, hcd⟩, hcs⟩ := hle
  obtain ⟨h', tk, rfl, hkp⟩ := ic.done
  have q' : Pure H s₁ { s₁ with heap := h', toks := tk } := Pure.all inv hkp
  have newc : ∀ y c', (y, c') ∈ env.cells → s₁.heap.get? c' = none := fun y c' hm => by
    cases z : s₁.heap.get? c' with
    | none => rfl
    | some o' => exact absurd (Nat.lt_trans (Nat.lt_of_le_of_lt (Nat.le_of_eq hlc.symm) (ic.above y c' hm)) (Heap.lt_size z)) (Nat.lt_irrefl _)
  have newl : s₁.heap.get? env.locals = none := by rw [hlc]; exact get_size _
  have no : ∀ {b : Addr}, s₁.heap.get? b = none → ∀ o', ¬ L b o' := fun hb' o' e => by
    rw [(led₁ _ _ e).1] at hb'; cases hb'
  refine ⟨⟨q'.inv, led₁.keep q'.keep, hsc, hkd, hgl.trans hgb, hbl.trans hbb, fun c' e => by cases e; exact hcd.trans hcode, hq, fun x hx => ?_, fun x c' hm => IsCell.there (ic.cell x c' hm), fun x d' e => ?_⟩, inv, fun _ e => e.elim, .of q', fun _ _ => .inl, fun _ _ => id, fun p hp => (nomatch hp), List.nodup_nil, ⟨.inl newl, no newl, _, ic.toInCall.ns⟩, fun x c' _ _ hcl => ?_, ⟨fun x y c' _ h1 h2 => name_of_addr ic.apart (mem_of_lookup h2) (mem_of_lookup h1), fun x c' hm => Nat.ne_of_gt (ic.above x c' (mem_of_lookup hm))⟩⟩
  · rcases hx with hx | hx
    · rw [hcs]; exact Option.isSome_iff_exists.mp (cellsFrom_has _ _ _ _ (.inl (mem_of_lookup hx)))
    · exact (hfree x hx).elim
  · obtain ⟨v, hv, iv⟩ := lookup_zip hbi (by rw [hbn]; exact e)
    have hxn : x ∈ names := hbn ▸ List.mem_map.mpr ⟨(x, v), mem_of_lookup hv, rfl⟩
    have hko : env.kindOf x = fd.scope.names.lookup x := by unfold Env.kindOf; rw [hsc]
    refine ⟨v, ?_, iv⟩
    rcases hkind x hxn with hl | hl
    · exact .inl ⟨hko.trans hl, _, ic.toInCall.ns, bindL_at _ _ _ _ _ (hbn ▸ hn) hv (hko.trans hl)⟩
    · obtain ⟨c', hc'⟩ := Option.isSome_iff_exists.mp (cellsFrom_has fd.scope.names (s₁.heap.objs.size + 1) [] x (.inl (mem_of_lookup hl)))
      rw [← hcs] at hc'
      refine .inr ⟨.inl (hko.trans hl), c', hc', ?_⟩
      have := ic.cell x c' hc'
      rw [bindC_at _ _ _ _ _ (hbn ▸ hn) hv (by rw [hko, hl]; decide)] at this
      exact this
  · exact ⟨.inl (newc x c' (mem_of_lookup hcl)), no (newc x c' (mem_of_lookup hcl)), _, ic.cell x c' hcl⟩

theorem FN.def {q : Option Str} {a c : Addr} {fd : FuncData} {body : List Stmt} {ps : List PD} {ks : List (Str × PD)} {names : List Str} {ds : List PD} {d : PD} (D : DefAt H a fd body c) (hb : BINDS prog w hk H fd ps ks names ds)
    (hn : names.Nodup) (hkind : ∀ x ∈ names, fd.scope.names.lookup x = some .local ∨ fd.scope.names.lookup x = some .cell)
    (h : EX prog w hk H n ⟨fd.scope, some c, q⟩ wc (fun x => (names.zip ds).lookup x) [] body ⟨fun _ _ => False, fun _ _ => False, fun d' _ => d' = d⟩) (hq : q = none ∨ q = some (fd.qualname ++ ".<locals>.") := by exact .inl rfl) : FN prog w hk H (n + 1) (.val (.ref a)) ps ks d := fun A s L fv vs kvs ok inv led iv i1 i2 i3 => by
  cases iv
  obtain ⟨o, ho, hc, hd⟩ := D.obj
  obtain ⟨oc, vc, tc, e1, e2, e3, e4, e5⟩ := D.code
  refine wpAny_call (codeAny_call_function ok.room (inv.get ho hc) hd D.co D.gen D.body ⟨c, oc, vc, tc, e1, inv.get e2 e3, e4, e5⟩ ?_)
  refine wpAny_mono (hb A.in1 s L vs kvs inv led i1 i2 i3) (fun b s₁ hb₁ => ?_) fun _ _ f => f.elim
  obtain ⟨q, hbn, hbi⟩ := hb₁
  rw [D.clo]
  refine wpAny_newFunctionEnv_cells D.kind (fun x hx => ?_) fun env he s' ic => ⟨?_, codeAny_func ?_⟩
  · have hxn : x.1 ∈ names := hbn ▸ List.mem_map.mpr ⟨x, hx, rfl⟩
    refine (hkind _ hxn).imp id fun e => ⟨e, cellsFrom_has _ _ _ _ (.inl (mem_of_lookup e))⟩
  · obtain ⟨h', tk, rfl, hkp⟩ := ic.done
    exact q.inv.lim.keeps hkp
  · have st := FN.begin (wc := wc) D.kind D.free D.glob D.blt e1 q.inv ((led.keep q.keep).or .fresh) hbn hbi hn hkind (by subst he; exact ⟨⟨rfl, rfl, rfl, rfl, rfl⟩, rfl⟩) ic (fun z e => by
      have e9 : env.qual = fd.qualname ++ ".<locals>." := by rw [he]; rfl
      rcases hq with hq | hq
      · exact absurd (hq.symm.trans e) (by simp)
      · exact e9.trans (Option.some.inj (hq.symm.trans e)))
    refine wpAny_mono (h (A.deeper env) _ _ _ env (ok.deeper env) st) (fun f s₂ e => ?_) fun _ _ f => f.elim
    cases f with
    | next => obtain ⟨_, _, _, e, _⟩ := e; exact e.elim
    | cont => obtain ⟨_, _, _, e, _⟩ := e; exact e.elim
    | brk => exact e.elim
    | ret v =>
      obtain ⟨q₂, i⟩ := e.post fun _ => id
      exact ⟨q.trans q₂, i.step q.keep q₂.keep⟩
end
end Mine
end

section -- B6
open PySem PySem.Calls PySem.W PyProof.Rows
set_option maxRecDepth 100000
set_option linter.unusedVariables false
namespace Mine
/-- what a turn hands out: a datum, or a tuple that may be taken back -/
inductive Item where
  | one (d : PD)
  | tup (ds : List PD)
def ItemIs (hk : PD → Int) (L : Led) (h : Heap) (v : Value) : Item → Prop
  | .one d => Is hk L v d
  | .tup ds => ∃ T vals, v = .ref T ∧ h.IsTuple T vals ∧ IsAll hk L vals.toList ds
structure Wk where
  I : Addr
  fp : List Addr
  wr : List Addr
  n : Nat
  P : Nat → Value → Heap → Prop
  Md : Nat → Value → Heap → Prop
  S : Nat → Heap → Prop
/-- the iterator, from the heap h on, over the items -/
structure WkOk (prog : Program) (w : World) (hk : PD → Int) (t : Expr) (W : Wk) (items : List Item) (L : Led) : Prop where
  turns : ∀ A : Around, A.handled = none → KTurns prog w A t W.I W.fp W.wr W.n W.P W.Md W.S
  len : W.n = items.length
  item : ∀ i v h L' x, (∀ a o, L a o → L' a o) → W.P i v h → items[i]? = some x → ItemIs hk L' h v x
  self : ∀ (A : Around) i (s : Shared) (Q : Value → Shared → Prop) (E : Value → Shared → Prop), A.handled = none → W.S i s.heap → Q (.ref W.I) s → wpAny (model prog w) A (pyIter (.ref W.I)) Q E s
  here : ∀ i h, W.S i h → ∀ b ∈ W.fp, ∃ o, h.get? b = some o
  src : ∀ b ∈ W.fp, b ∈ W.wr ∨ ∃ o, L b o
  apart : ∀ b ∈ W.wr, ∀ o, ¬ L b o
  nc : (∀ i h, W.S i h → ∀ b ∈ W.wr, ∀ o x, h.get? b = some o → ¬ RecAt o x) ∧ ∀ i v h, W.Md i v h → ∀ b ∈ W.wr, ∀ o x, h.get? b = some o → ¬ RecAt o x
/-- the expression is a source of the items -/
def IT (prog : Program) (w : World) (hk : PD → Int) (H : Heap) (n : Nat) (F : Fm) (look : Look) (e t : Expr) (items : List Item) : Prop :=
  ∀ (A : Around) (s : Shared) (L : Led) (env : Env), Ok n A → Pre hk H F env look L s → wpAny (model prog w) A (eval e env) (fun x s₁ => wpAny (model prog w) A (pyIter x) (fun it s₂ =>
    ∃ W L₂, it = .ref W.I ∧ WkOk prog w hk t W items L₂ ∧ Pure H s s₂ ∧ (∀ a o, L a o → L₂ a o) ∧ Holds H L₂ s₂.heap ∧ (∀ a o, L₂ a o → L a o ∨ s.heap.get? a = none) ∧ W.S 0 s₂.heap ∧ (∀ b ∈ W.wr, s.heap.get? b = none)) (fun _ _ => False) s₁) (fun _ _ => False) s
def TGI (prog : Program) (w : World) (hk : PD → Int) (H : Heap) (F : Fm) (wc : List Str) (t : Expr) (x : Item) (f : Look → Look) : Prop :=
  ∀ (A : Around) (B : Bs) (s : Shared) (L : Led) (env : Env) (look : Look) (own : Own) (v : Value) (Q : Unit → Shared → Prop) (E : Value → Shared → Prop), A.handled = none → St hk H B F wc env look own L s → ItemIs hk L s.heap v x →
    (∀ s' L', (∀ a o, L a o → L' a o) → St hk H B F wc env (f look) own L' s' → Q () s') → wpAny (model prog w) A (assign t env v) Q E s

section
variable {prog : Program} {w : World} {hk : PD → Int} {H : Heap} {n : Nat} {F : Fm} {wc : List Str} {look : Look} {own : Own} {G : Goal} {A : Around} {B : Bs} {s s' : Shared} {L : Led} {env : Env} {t : Expr} {items : List Item}

theorem TGI.one {d : PD} {f : Look → Look} (h : TG prog w hk H F wc t d f) : TGI prog w hk H F wc t (.one d) f := h
theorem TGI.tup {xs : List (Str × Pos)} {kk : Nat} {pos : Pos} {ds : List PD} (hl : xs.length = ds.length := by rfl) (hx : ∀ x ∈ xs, F.sc.names.lookup x.1 = some .local ∨ (F.sc.names.lookup x.1 = some .cell ∧ x.1 ∈ wc)) :
    TGI prog w hk H F wc (.Tuple (nameTs xs) kk pos) (.tup ds) (fun l => upds l (xs.map (·.1)) ds) := fun A B s L env look own v Q E hh st i k => by
  obtain ⟨T, vals, rfl, ht, iv⟩ := i
  exact st.unpack hh ht iv hl hx k

/-- an expression has been reckoned, with a frozen part of one's own choice -/
theorem St.stepL (st : St hk H B F wc env look own L s) (q : Pure H s s') {L₂ : Led} (sub : ∀ a o, L a o → L₂ a o) (ho : Holds H L₂ s'.heap) (hb : ∀ a o, L₂ a o → L a o ∨ s.heap.get? a = none) : St hk H B F wc env look own L₂ s' where
  pre := { st.pre.pure q with led := ho, view := fun x d e => let ⟨v, r, i⟩ := st.pre.view x d e; ⟨v, r.keep q.keep, i.mono sub⟩ }
  inv0 := st.inv0
  no := st.no
  pure := st.pure.step q
  base := fun a o e => (hb a o e).elim (st.base a o) fun f => .inr (.inl (st.pure.none f))
  sub := fun a o e => sub _ _ (st.sub a o e)
  ownAt := fun p hp => let ⟨a, b, c, d⟩ := st.ownAt p hp; ⟨a.keep sub q.keep, b, fun o e => (hb _ o e).elim (c o) fun f => (by obtain ⟨o', q⟩ := a.there; rw [f] at q; cases q), d⟩
  nodup := st.nodup
  loc := let ⟨a, b, m, c⟩ := st.loc; ⟨a, fun o e => (hb _ o e).elim (b o) fun f => (by obtain ⟨o', q⟩ := Ns.there c; rw [f] at q; cases q), m, Ns.keep c q.keep⟩
  cel := fun x c h0 h1 h2 => let ⟨a, b, v, d⟩ := st.cel x c h0 h1 h2; ⟨a, fun o e => (hb _ o e).elim (b o) fun f => (by obtain ⟨o', q⟩ := IsCell.there d; rw [f] at q; cases q), v, IsCell.keep d q.keep⟩
  cells := st.cells

theorem Ns.at1 {h h' : Heap} {a : Addr} {m : Str → Option Value} (n : h.Ns a m) (k : ∀ o, h.get? a = some o → h'.get? a = some o) : h'.Ns a m := Ns.one n k
theorem IsCell.at1 {h h' : Heap} {a : Addr} {v : Option Value} (n : h.IsCell a v) (k : ∀ o, h.get? a = some o → h'.get? a = some o) : h'.IsCell a v := let ⟨o, e, r⟩ := n; ⟨o, k o e, r⟩
/-- objects of one's own that no one else knows are changed -/
theorem St.but {wr : List Addr} {h' : Heap} {tk : Nat} (st : St hk H B F wc env look own L s) (new : ∀ b ∈ wr, B.s₀.heap.get? b = none) (nl : ∀ b ∈ wr, ∀ o, ¬ L b o) (ao : ∀ p ∈ own, p.1 ∉ wr) (al : env.locals ∉ wr) (ac : ∀ x c, env.cells.lookup x = some c → c ∉ wr)
    (nr : ∀ b ∈ wr, ∀ o x, s.heap.get? b = some o → ¬ RecAt o x) (hk' : ∀ b o, b ∉ wr → s.heap.get? b = some o → h'.get? b = some o) : St hk H B F wc env look own L { s with heap := h', toks := tk } := by
  have inv' : Inv H h' := st.pre.inv.but (X := fun b => b ∈ wr) (fun a e => st.inv0.none (new a e)) (fun a o x e => nr a e o x) (fun b o n e => hk' b o n e)
  refine ⟨{ st.pre with inv := inv', led := fun a o e => ⟨hk' a o (fun q => nl a q o e) (st.pre.led a o e).1, (st.pre.led a o e).2⟩, cthere := fun x c e => (let ⟨o, e'⟩ := st.pre.cthere x c e; ⟨o, hk' c o (ac x c e) e'⟩), view := fun x d e => ?_ }, st.inv0, st.no, ?_, st.base, st.sub, fun p hp => ?_, st.nodup, ?_, fun x c h0 h1 h2 => ?_, st.cells⟩
  · obtain ⟨v, r, i⟩ := st.pre.view x d e
    refine ⟨v, ?_, i⟩
    rcases r with ⟨h1, m', h2, h3⟩ | ⟨h1, c, h3, h4⟩
    · exact .inl ⟨h1, m', Ns.at1 h2 fun o e => hk' _ o al e, h3⟩
    · exact .inr ⟨h1, c, h3, IsCell.at1 h4 fun o e => hk' _ o (ac _ _ h3) e⟩
  · have nw : ∀ a o, B.s₀.heap.get? a = some o → a ∉ wr := fun a o e q => by rw [new a q] at e; cases e
    exact ⟨fun a o e c n => hk' a o (nw a o e) (st.pure.keep a o e c n), fun a o e => let ⟨o', e'⟩ := st.pure.there a o e; ⟨o', hk' a o' (nw a o e) e'⟩, inv', st.pure.gens, st.pure.bare, st.pure.os⟩
  · obtain ⟨a, b, c⟩ := st.ownAt p hp
    obtain ⟨o, ho⟩ := a.there
    exact ⟨a.mono (fun _ _ => id) ((hk' _ o (ao p hp) ho).trans ho.symm), b, c⟩
  · obtain ⟨a, b, m, c⟩ := st.loc
    exact ⟨a, b, m, Ns.at1 c fun o e => hk' _ o al e⟩
  · obtain ⟨a, b, v, d⟩ := st.cel x c h0 h1 h2
    exact ⟨a, b, v, IsCell.at1 d fun o e => hk' _ o (ac _ _ h2) e⟩

/-- between two turns -/
structure LS (hk : PD → Int) (H : Heap) (W : Wk) (Lw : Led) (B : Bs) (F : Fm) (wc : List Str) (env : Env) (look : Look) (own : Own) (L : Led) (i : Nat) (s : Shared) : Prop where
  st : St hk H B F wc env look own L s
  at_ : W.S i s.heap
  nl : ∀ b ∈ W.wr, ∀ o, ¬ L b o
  sub : ∀ a o, Lw a o → L a o
  ao : ∀ p ∈ own, p.1 ∉ W.fp
  al : env.locals ∉ W.fp
  ac : ∀ x c, env.cells.lookup x = some c → c ∉ W.wr
  aw : ∀ x c, x ∈ wc → F.sc.names.lookup x = some .cell → env.cells.lookup x = some c → c ∉ W.fp
  new : ∀ b ∈ W.wr, B.s₀.heap.get? b = none

variable {W : Wk} {Lw : Led} {i : Nat}
theorem LS.keep {h' : Heap} {tk : Nat} (ls : LS hk H W Lw B F wc env look own L i s) (K : KTurns prog w A t W.I W.fp W.wr W.n W.P W.Md W.S) (nr : ∀ b ∈ W.wr, ∀ o x, s.heap.get? b = some o → ¬ RecAt o x) (hk' : ∀ b o, b ∉ W.wr → s.heap.get? b = some o → h'.get? b = some o) :
    St hk H B F wc env look own L { s with heap := h', toks := tk } :=
  ls.st.but ls.new ls.nl (fun p hp h => ls.ao p hp (K.sub _ h)) (fun h => ls.al (K.sub _ h)) ls.ac nr hk'
theorem LS.item {Q : Option Value → Shared → Prop} {E : Value → Shared → Prop} {x : Item} (ok : WkOk prog w hk t W items Lw) (hh : A.handled = none) (ls : LS hk H W Lw B F wc env look own L i s) (hi : items[i]? = some x)
    (k : ∀ v s₁, (∀ (Q' : Unit → Shared → Prop) (E' : Value → Shared → Prop), (∀ s₂, LS hk H W Lw B F wc env look own L (i + 1) s₂ → ItemIs hk L s₂.heap v x → Q' () s₂) → wpAny (model prog w) A (letOwnedTupleGo t (.ref W.I) v) Q' E' s₁) → Q (some v) s₁) :
    wpAny (model prog w) A (pyNext (.ref W.I)) Q E s := by
  have K := ok.turns A hh
  have hlt : i < W.n := by rw [ok.len]; exact (List.getElem?_eq_some_iff.mp hi).1
  refine K.item i s Q E hlt ls.at_ fun v h' tk hM hk' => k v _ fun Q' E' k' => ?_
  have st' := LS.keep (tk := tk) ls K (ok.nc.1 _ _ ls.at_) hk'
  refine K.go i v _ Q' E' hM fun h₂ hP hS hk₂ => k' _ ?_ (ok.item i v h₂ L x ls.sub hP hi)
  exact ⟨st'.but ls.new ls.nl (fun p hp h => ls.ao p hp (K.sub _ h)) (fun h => ls.al (K.sub _ h)) ls.ac (ok.nc.2 _ _ _ hM) hk₂, hS, ls.nl, ls.sub, ls.ao, ls.al, ls.ac, ls.aw, ls.new⟩
theorem LS.done {Q : Option Value → Shared → Prop} {E : Value → Shared → Prop} (ok : WkOk prog w hk t W items Lw) (hh : A.handled = none) (ls : LS hk H W Lw B F wc env look own L i s) (hi : i = items.length)
    (k : ∀ s', St hk H B F wc env look own L s' → Q none s') : wpAny (model prog w) A (pyNext (.ref W.I)) Q E s := by
  have K := ok.turns A hh
  exact K.done s Q E (by rw [ok.len, ← hi]; exact ls.at_) fun h' tk hk' => k _ (LS.keep ls K (ok.nc.1 _ _ ls.at_) hk')
theorem LS.back {look' : Look} {own' : Own} {L' : Led} (ok : WkOk prog w hk t W items Lw) (ls : LS hk H W Lw B F wc env look own L i s) (st' : St hk H (St.there own wc F env L s) F wc env look' own' L' s') (ho : own'.map (·.1) = own.map (·.1)) :
    LS hk H W Lw B F wc env look' own' L' i s' := by
  have K := ok.turns {} rfl
  have nX : ∀ b ∈ W.fp, ¬ (St.there own wc F env L s).X b := fun b hb e => by
    rcases e with e | ⟨p, hp, e⟩ | ⟨x, h1, h2, h3⟩
    · exact ls.al (e ▸ hb)
    · exact ls.ao p hp (e ▸ hb)
    · exact ls.aw x b h1 h2 h3 hb
  refine ⟨ls.st.back st', K.frame _ _ _ ls.at_ fun b hb o e => st'.pure.keep b o e ?_ (nX b hb), fun b hb o e => ?_, fun a o e => st'.sub a o (ls.sub a o e), fun p hp => ?_, ls.al, ls.ac, ls.aw, ls.new⟩
  · rcases ok.src b hb with q | ⟨o', q⟩
    · exact .inr (.inr (ls.st.inv0.none (ls.new b q)))
    · obtain ⟨e', sol⟩ := ls.st.pre.led _ _ (ls.sub _ _ q)
      have : o' = o := by
        have e0 : s.heap.get? b = some o := e
        rw [e'] at e0; exact Option.some.inj e0
      exact this ▸ sol.1
  · rcases st'.base b o e with e | e | e
    · exact ls.nl b hb o e
    · obtain ⟨o', q⟩ := ok.here _ _ ls.at_ b (K.sub b hb)
      have e0 : s.heap.get? b = none := e
      rw [q] at e0; cases e0
    · exact nX b (K.sub b hb) e
  · have : p.1 ∈ own.map (·.1) := ho ▸ List.mem_map.mpr ⟨p, hp, rfl⟩
    obtain ⟨p', hp', e⟩ := List.mem_map.mp this
    exact e ▸ ls.ao p' hp'

/-- the loop over the items; J: what holds between the turns -/
theorem EX1.for {iter : Expr} {body : List Stmt} {pos : Pos} {f : Item → Look → Look} (J : Nat → Look → Own → Prop) (hit : IT prog w hk H n F look iter t items) (h0 : J 0 look own) (hJo : ∀ i l o, J i l o → o.map (·.1) = own.map (·.1))
    (tg : ∀ x ∈ items, TGI prog w hk H F wc t x (f x))
    (hb : ∀ i x l o, items[i]? = some x → J i l o → EX prog w hk H n F wc (f x l) o body ⟨J (i + 1), J (i + 1), G.R⟩)
    (hend : ∀ l o, J items.length l o → G.N l o) (hs : ∀ env x, foldedSetIterable iter env x = pure x := by intro _ _; rfl) :
    EX1 prog w hk H n F wc look own (.For t iter body [] pos) G := fun A B s L env ok st => by
  refine wpAny_For (wpAny_mono (hit A s L env ok st.pre) (fun x s₁ h₁ => wpAny_mono h₁ (fun it s₂ h₂ => ?_) fun _ _ f => f.elim) fun _ _ f => f.elim) (hs env)
  obtain ⟨W, L₂, rfl, wk, q, sub, ho, hb₂, hS, hwr⟩ := h₂
  have K := wk.turns A ok.handled
  have nf : ∀ b, (∃ o, s.heap.get? b = some o) → (∀ o, ¬ L b o) → b ∉ W.fp := fun b ⟨o, e⟩ nl hf => by
    rcases wk.src b hf with h | ⟨o', h⟩
    · rw [hwr b h] at e; cases e
    · rcases hb₂ b o' h with h | h
      · exact nl _ h
      · rw [h] at e; cases e
  have ls0 : LS hk H W L₂ B F wc env look own L₂ 0 s₂ := ⟨st.stepL q sub ho hb₂, hS, wk.apart, fun _ _ => id, fun p hp => nf _ (st.ownAt p hp).1.there (st.ownAt p hp).2.2.1,
    nf _ (by obtain ⟨_, _, m, c⟩ := st.loc; exact Ns.there c) st.loc.2.1, fun x c hc hf => ?_, fun x c h0 h1 h2 => nf _ (by obtain ⟨_, _, v, d⟩ := st.cel x c h0 h1 h2; exact IsCell.there d) (st.cel x c h0 h1 h2).2.1, fun b hb => st.pure.none (hwr b hb)⟩
  · refine codeAny_forLoop_any (fun k s' => ∃ i l o L', J i l o ∧ LS hk H W L₂ B F wc env l o L' i s' ∧ i ≤ items.length ∧ k = items.length + 1 - i) ?_ (items.length + 1) ⟨0, look, own, L₂, h0, ls0, Nat.zero_le _, rfl⟩
    rintro k s' ⟨i, l, o, L', hJ, ls, hi, rfl⟩
    by_cases hlt : i < items.length
    · refine ls.item wk ok.handled (x := items[i]) (List.getElem?_eq_getElem hlt) fun v s₃ hgo => hgo _ _ fun s₄ ls₄ iv => ?_
      have it : items[i]? = some items[i] := List.getElem?_eq_getElem hlt
      refine tg items[i] (List.getElem_mem _) A _ s₄ L' env l o v _ _ ok.handled ls₄.st.rebase iv fun s₅ L₅ _ st₅ => ?_
      refine wpAny_mono (hb i _ l o it hJ A _ s₅ L₅ env ok st₅) (fun fl s₆ e => ?_) fun _ _ f => f.elim
      have next : ∀ l' o' L'', J (i + 1) l' o' → St hk H (St.there o wc F env L' s₄) F wc env l' o' L'' s₆ → ∃ m, m < items.length + 1 - i ∧ ∃ i l o L', J i l o ∧ LS hk H W L₂ B F wc env l o L' i s₆ ∧ i ≤ items.length ∧ m = items.length + 1 - i := fun l' o' L'' hJ' st' =>
        ⟨items.length + 1 - (i + 1), by omega, i + 1, l', o', L'', hJ', ls₄.back wk st' (by rw [hJo _ _ _ hJ', hJo _ _ _ hJ]), hlt, rfl⟩
      cases fl with
      | next => obtain ⟨l', o', L'', e1, e2⟩ := e; exact next l' o' L'' e1 e2
      | cont => obtain ⟨l', o', L'', e1, e2⟩ := e; exact next l' o' L'' e1 e2
      | brk => exact e.elim
      | ret v =>
        obtain ⟨l', o', L'', d, e1, e2, e3⟩ := e
        exact ⟨l', o', L'', d, e1, ls₄.st.back e2, e3⟩
    · have hin : i = items.length := by omega
      refine ls.done wk ok.handled hin fun s₃ st₃ => wpAny_execs_nil ?_
      subst hin
      exact ⟨l, o, L', hend l o hJ, st₃⟩
  · obtain ⟨o, e⟩ := st.pre.cthere x c hc
    rw [hwr c hf] at e; cases e
end
end Mine
end

section -- B7
open PySem PySem.Calls PySem.W PyProof.Rows
set_option maxRecDepth 100000
set_option linter.unusedVariables false
namespace Mine
section
variable {prog : Program} {w : World} {A : Around} {E : Value → Shared → Prop} {R : Result → Shared → Prop} {s : Shared}
abbrev testsOf (ifs : List Expr) (env : Env) : Sem Bool := forIn ifs true fun c r => if r = true then do let ok ← isTrue c env (eval c env); pure (ForInStep.yield ok) else pure (ForInStep.yield r)
theorem compLoop_list {elt target iter : Expr} {ifs : List Expr} {scope : Scope} {pos : Pos} {it acc : Value} {env : Env} (I : Nat → Shared → Prop)
    (turn : ∀ n s, I n s → wpAny (model prog w) A (pyNext it) (fun r s₁ => match r with
      | none => R (.ok .next) s₁
      | some v => wpAny (model prog w) A (letOwnedTupleGo target it v) (fun _ s₁' => wpAny (model prog w) A (assign target env v) (fun _ s₂ =>
          wpAny (model prog w) A (testsOf ifs env) (fun ok s₃ =>
            if ok = true then wpAny (model prog w) A (eval elt env) (fun x s₄ =>
              wpAny (model prog w) A (call (.builtin "list.append") [acc, x]) (fun _ s₅ => ∃ m, m < n ∧ I m s₅) (fun _ _ => False) s₄) (fun _ _ => False) s₃
            else ∃ m, m < n ∧ I m s₃) (fun _ _ => False) s₂) (fun _ _ => False) s₁') (fun _ _ => False) s₁) (fun _ _ => False) s)
    (n : Nat) (h : I n s) :
    codeAny (model prog w) A (.compLoop (.ListComp elt [⟨target, iter, ifs, 0⟩] scope pos) 0 it acc env) R s := by
  refine codeAny_loop rfl I (fun n s hI => ?_) n h
  show wpAny _ A ((compTurn (.ListComp elt [⟨target, iter, ifs, 0⟩] scope pos) 0 it acc env).onRaise (fun x => do noteFrame x env; theTreesLotGoes x)) _ _ s
  refine wpAny_noted ?_
  rw [compTurn_list]
  refine wpAny_bind (wpAny_standAt (wpAny_bind (wpAny_mono (turn n s hI) (fun r s₁ h₁ => ?_) fun _ _ f => f.elim)))
  cases r with
  | none => exact wpAny_pure h₁
  | some v =>
    refine wpAny_bind (wpAny_mono h₁ (fun _ s₁' h₁' => ?_) fun _ _ f => f.elim)
    refine wpAny_bind (wpAny_mono h₁' (fun _ s₂ h₂ => wpAny_bind (wpAny_mono h₂ (fun ok s₃ h₃ => ?_) fun _ _ f => f.elim)) fun _ _ f => f.elim)
    cases ok with
    | false => exact wpAny_pure ⟨rfl, h₃⟩
    | true =>
      exact wpAny_bind (wpAny_bind (wpAny_mono h₃ (fun x s₄ h₄ => wpAny_bind (wpAny_mono h₄ (fun _ s₅ h₅ => wpAny_pure (wpAny_pure ⟨rfl, h₅⟩)) fun _ _ f => f.elim)) fun _ _ f => f.elim))
theorem compLoop_dict {kx vx target iter : Expr} {ifs : List Expr} {scope : Scope} {pos : Pos} {it : Value} {D : Addr} {env : Env} (I : Nat → Shared → Prop)
    (turn : ∀ n s, I n s → wpAny (model prog w) A (pyNext it) (fun r s₁ => match r with
      | none => R (.ok .next) s₁
      | some v => wpAny (model prog w) A (letOwnedTupleGo target it v) (fun _ s₁' => wpAny (model prog w) A (assign target env v) (fun _ s₂ =>
          wpAny (model prog w) A (testsOf ifs env) (fun ok s₃ =>
            if ok = true then wpAny (model prog w) A (eval kx env) (fun kv s₄ => wpAny (model prog w) A (eval vx env) (fun vv s₅ =>
              wpAny (model prog w) A (dictSet D kv vv) (fun _ s₆ => ∃ m, m < n ∧ I m s₆) (fun _ _ => False) s₅) (fun _ _ => False) s₄) (fun _ _ => False) s₃
            else ∃ m, m < n ∧ I m s₃) (fun _ _ => False) s₂) (fun _ _ => False) s₁') (fun _ _ => False) s₁) (fun _ _ => False) s)
    (n : Nat) (h : I n s) :
    codeAny (model prog w) A (.compLoop (.DictComp kx vx [⟨target, iter, ifs, 0⟩] scope pos) 0 it (.ref D) env) R s := by
  refine codeAny_loop rfl I (fun n s hI => ?_) n h
  show wpAny _ A ((compTurn (.DictComp kx vx [⟨target, iter, ifs, 0⟩] scope pos) 0 it (.ref D) env).onRaise (fun x => do noteFrame x env; theTreesLotGoes x)) _ _ s
  refine wpAny_noted ?_
  rw [compTurn_dict]
  refine wpAny_bind (wpAny_standAt (wpAny_bind (wpAny_mono (turn n s hI) (fun r s₁ h₁ => ?_) fun _ _ f => f.elim)))
  cases r with
  | none => exact wpAny_pure h₁
  | some v =>
    refine wpAny_bind (wpAny_mono h₁ (fun _ s₁' h₁' => ?_) fun _ _ f => f.elim)
    refine wpAny_bind (wpAny_mono h₁' (fun _ s₂ h₂ => wpAny_bind (wpAny_mono h₂ (fun ok s₃ h₃ => ?_) fun _ _ f => f.elim)) fun _ _ f => f.elim)
    cases ok with
    | false => exact wpAny_pure ⟨rfl, h₃⟩
    | true =>
      exact wpAny_bind (wpAny_bind (wpAny_mono h₃ (fun kv s₄ h₄ => wpAny_bind (wpAny_holding (wpAny_mono h₄ (fun vv s₅ h₅ => wpAny_bind (wpAny_standAt (wpAny_holding (wpAny_mono h₅ (fun _ s₆ h₆ => wpAny_pure ⟨rfl, h₆⟩) fun _ _ f => f.elim)))) fun _ _ f => f.elim))) fun _ _ f => f.elim))
end

/-- the cells that a scope takes along -/
def closFrom (cells : List (Str × Addr)) : List (Str × NameKind) → List (Str × Addr) → List (Str × Addr)
  | [], acc => acc
  | (y, k) :: r, acc => if k == .free then closFrom cells r ((y, (cells.lookup y).getD 0) :: acc) else closFrom cells r acc
theorem closureFor_eq {scope : Scope} {env : Env} (h : ∀ y ∈ scope.names, y.2 = .free → ∃ c, env.cells.lookup y.1 = some c) : closureFor scope env = pure (closFrom env.cells scope.names []) := by
  have core : ∀ (names : List (Str × NameKind)) (acc : List (Str × Addr)), (∀ y ∈ names, y.2 = .free → ∃ c, env.cells.lookup y.1 = some c) →
      (forIn (m := Sem) names acc fun (x : Str × NameKind) r => (if (x.2 == NameKind.free) = true then do let a ← cellOf env x.1; pure (ForInStep.yield ((x.1, a) :: r)) else pure (ForInStep.yield r))) = pure (closFrom env.cells names acc) := by
    intro names
    induction names with
    | nil => intro acc _; rfl
    | cons y r ih =>
      intro acc hy
      obtain ⟨name, kind⟩ := y
      rw [List.forIn_cons]
      cases hk : kind == NameKind.free with
      | true =>
        have e := beq_iff_eq.mp hk
        obtain ⟨c, hc⟩ := hy _ (.head _) e
        have hcell : cellOf env name = pure c := by unfold cellOf; rw [hc]
        simp only [hk, if_true, hcell]
        show _ = _
        unfold closFrom
        rw [hk, if_pos rfl]
        have := ih ((name, c) :: acc) fun z hz => hy z (.tail _ hz)
        simp only [hc, Option.getD_some]
        exact this
      | false =>
        simp only [hk, Bool.false_eq_true, if_false]
        unfold closFrom
        rw [hk, if_neg (by decide)]
        exact ih acc fun z hz => hy z (.tail _ hz)
  have := core scope.names [] h
  simp only [closureFor]
  rw [this]
  rfl
theorem closFrom_lookup (cells : List (Str × Addr)) : ∀ (names : List (Str × NameKind)) (acc : List (Str × Addr)) (y : Str) (c : Addr), cells.lookup y = some c → ((y, NameKind.free) ∈ names ∨ acc.lookup y = some c) → (∀ z c', acc.lookup z = some c' → cells.lookup z = some c') → (∀ z ∈ names, z.2 = .free → ∃ c, cells.lookup z.1 = some c) → (closFrom cells names acc).lookup y = some c
  | [], acc, y, c, hc, h, _, _ => h.elim (fun e => nomatch e) id
  | (z, k) :: r, acc, y, c, hc, h, ha, hall => by
    have hall' : ∀ z ∈ r, z.2 = .free → ∃ c, cells.lookup z.1 = some c := fun z hz => hall z (.tail _ hz)
    unfold closFrom
    by_cases hk : (k == NameKind.free) = true
    · rw [if_pos hk]
      by_cases hy : y = z
      · subst hy
        refine closFrom_lookup cells r _ y c hc (.inr (by rw [List.lookup_cons, beq_self_eq_true, hc]; rfl)) (fun z' c' e => ?_) hall'
        rw [List.lookup_cons] at e
        cases q : z' == y with
        | true => rw [q] at e; cases e; rw [beq_iff_eq.mp q, hc]; rfl
        | false => rw [q] at e; exact ha z' c' e
      · have hq : (y == z) = false := by simpa using hy
        obtain ⟨cz, hz⟩ := hall (z, k) (.head _) (beq_iff_eq.mp hk)
        have hz : cells.lookup z = some cz := hz
        · refine closFrom_lookup cells r _ y c hc (h.imp (fun e => ?_) fun e => by rw [List.lookup_cons, hq]; exact e) (fun z' c' e => ?_) ?_
          · rcases List.mem_cons.mp e with e | e
            · cases e; exact absurd rfl hy
            · exact e
          · rw [List.lookup_cons] at e
            cases q : z' == z with
            | true => rw [q] at e; cases e; rw [beq_iff_eq.mp q, hz]; rfl
            | false => rw [q] at e; exact ha z' c' e
          · exact hall'
    · rw [if_neg hk]
      refine closFrom_lookup cells r acc y c hc (h.imp (fun e => ?_) id) ha hall'
      rcases List.mem_cons.mp e with e | e
      · cases e; exact absurd rfl hk
      · exact e
end Mine
end

section -- B8
open PySem PySem.Calls PySem.W PyProof.Rows
set_option maxRecDepth 100000
set_option linter.unusedVariables false
namespace Mine
/-- the state but for the frame -/
structure Ow (hk : PD → Int) (H : Heap) (B : Bs) (own : Own) (L : Led) (s : Shared) : Prop where
  inv0 : Inv H B.s₀.heap
  no : ∀ a, B.X a → H.get? a = none
  pure : PureX H B.X B.s₀ s
  base : ∀ a o, L a o → B.L₀ a o ∨ B.own a
  sub : ∀ a o, B.L₀ a o → L a o
  led : Holds H L s.heap
  ownAt : ∀ p ∈ own, OwnAt hk L s.heap p.1 p.2 ∧ B.own p.1 ∧ ∀ o, ¬ L p.1 o
  nodup : (own.map (·.1)).Nodup
section
variable {prog : Program} {w : World} {hk : PD → Int} {H : Heap} {n : Nat} {F : Fm} {wc : List Str} {look : Look} {own own' : Own} {A : Around} {B : Bs} {s s' : Shared} {L L' L₂ : Led} {env : Env} {t : Expr} {items : List Item}
theorem St.ow (st : St hk H B F wc env look own L s) : Ow hk H B own L s :=
  ⟨st.inv0, st.no, st.pure, st.base, st.sub, st.pre.led, fun p hp => let ⟨a, b, c, _⟩ := st.ownAt p hp; ⟨a, b, c⟩, st.nodup⟩
theorem Ow.pure0 (p : Inv H s.heap) (q : Pure H s s') (sub : ∀ a o, L a o → L₂ a o) (ho : Holds H L₂ s'.heap) (hb : ∀ a o, L₂ a o → L a o ∨ s.heap.get? a = none) : Ow hk H ⟨s, L, fun _ => False⟩ [] L₂ s' :=
  ⟨p, fun _ e => e.elim, .of q, fun a o e => (hb a o e).imp id .inl, sub, ho, fun _ h => (nomatch h), List.nodup_nil⟩
/-- what a block that knows the own objects alone has left -/
theorem St.after (st : St hk H B F wc env look own L s) (ow : Ow hk H ⟨s, L, fun a => ∃ p ∈ own, a = p.1⟩ own' L' s') (ho : ∀ p ∈ own', p.1 ∈ own.map (·.1)) : St hk H B F wc env look own' L' s' := by
  have up : ∀ a, (Bs.mk s L fun a => ∃ p ∈ own, a = p.1).own a → B.own a := fun a e => by
    rcases e with e | ⟨p, hp, e⟩
    · exact .inl (st.pure.none e)
    · exact e ▸ (st.ownAt p hp).2.1
  have nl : ∀ a, (∃ o, s.heap.get? a = some o) → (∀ o, ¬ L a o) → (∀ p ∈ own, p.1 ≠ a) → ∀ o, ¬ L' a o := fun a ⟨o', e'⟩ n1 n2 o e => by
    rcases ow.base a o e with e | e | ⟨p, hp, e⟩
    · exact n1 _ e
    · have e0 : s.heap.get? a = none := e
      rw [e'] at e0; cases e0
    · exact n2 p hp e.symm
  have kp : ∀ a o, s.heap.get? a = some o → Solid H a o → (∀ p ∈ own, p.1 ≠ a) → s'.heap.get? a = some o := fun a o e c n => ow.pure.keep a o e c fun ⟨p, hp, e⟩ => n p hp e.symm
  have sol : ∀ {a : Addr} {o : Obj}, H.get? a = none → Solid H a o := fun e => .inr (.inr e)
  obtain ⟨la, lb, m, hn⟩ := st.loc
  have lo : ∀ p ∈ own, p.1 ≠ env.locals := fun p hp => (st.ownAt p hp).2.2.2.1
  have nsk : ∀ {a : Addr} {m : Str → Option Value}, (∀ p ∈ own, p.1 ≠ a) → s.heap.Ns a m → s'.heap.Ns a m := fun n x => by
    obtain ⟨o, es, ep, e, hd, r⟩ := x
    exact ⟨o, es, ep, kp _ _ e (.inr (.inl fun vs q => by rw [hd] at q; cases q)) n, hd, r⟩
  have clk : ∀ {c : Addr} {v : Option Value}, (∀ p ∈ own, p.1 ≠ c) → s.heap.IsCell c v → s'.heap.IsCell c v := fun n x => by
    obtain ⟨o, e, hd⟩ := x
    exact ⟨o, kp _ _ e (.inr (.inl fun vs q => by rw [hd] at q; cases q)) n, hd⟩
  have co : ∀ x c, env.cells.lookup x = some c → ∀ p ∈ own, p.1 ≠ c := fun x c h p hp => Ne.symm ((st.ownAt p hp).2.2.2.2 x c h)
  refine ⟨{ st.pre with inv := ow.pure.inv, led := ow.led, cthere := fun x c e => ?_, view := fun x d e => ?_ }, st.inv0, st.no, st.pure.join ow.pure fun a e => up a (.inr e), fun a o e => (ow.base a o e).elim (st.base a o) fun e => .inr (up a e), fun a o e => ow.sub a o (st.sub a o e), fun p hp => ?_, ow.nodup, ⟨la, nl _ (Ns.there hn) lb lo, m, nsk lo hn⟩, fun x c h0 h1 h2 => ?_, st.cells⟩
  · obtain ⟨o, e'⟩ := st.pre.cthere x c e
    exact ow.pure.there c o e'
  · obtain ⟨v, r, i⟩ := st.pre.view x d e
    refine ⟨v, ?_, i.mono ow.sub⟩
    rcases r with ⟨h1, m', h2, h3⟩ | ⟨h1, c, h3, h4⟩
    · exact .inl ⟨h1, m', nsk lo h2, h3⟩
    · exact .inr ⟨h1, c, h3, clk (co x c h3) h4⟩
  · obtain ⟨a, b, c⟩ := ow.ownAt p hp
    obtain ⟨p', hp', e⟩ := List.mem_map.mp (ho p hp)
    obtain ⟨_, _, _, d⟩ := st.ownAt p' hp'
    exact ⟨a, up _ b, c, e ▸ d⟩
  · obtain ⟨a, b, v, d⟩ := st.cel x c h0 h1 h2
    exact ⟨a, nl _ (IsCell.there d) b (co x c h2), v, clk (co x c h2) d⟩
/-- the first of the own objects is changed -/
theorem St.own1 {D : Addr} {x x' : OwnO} {h' : Heap} {tk : Nat} (st : St hk H B F wc env look ((D, x) :: own) L s) (hs : Heap.SameBut D s.heap h') (ha : OwnAt hk L h' D x') : St hk H B F wc env look ((D, x') :: own) L { s with heap := h', toks := tk } := by
  obtain ⟨a, b, c, d1, d2⟩ := st.ownAt _ (.head _)
  have hn := List.nodup_cons.mp st.nodup
  have hD := st.mine b
  have nr := a.noRec
  have inv' := st.pre.inv.same hD nr hs ha.there
  obtain ⟨la, lb, m, hm⟩ := st.loc
  have nsk : ∀ {m : Str → Option Value}, s.heap.Ns env.locals m → h'.Ns env.locals m := fun x => x.sameBut hs (Ne.symm d1)
  refine ⟨{ st.pre with inv := inv', led := st.pre.led.same hs c, cthere := fun x c e => ?_, view := fun x d e => ?_ }, st.inv0, st.no, st.pure.join (Y := fun a => a = D) (.one st.pre.inv hD nr rfl hs ha.there) fun a e => e ▸ b, st.base, st.sub, fun p hp => ?_, st.nodup, ⟨la, lb, m, nsk hm⟩, fun y c' h0 h1 h2 => ?_, st.cells⟩
  · obtain ⟨o, e'⟩ := st.pre.cthere x c e
    exact ⟨o, (hs.2 c (d2 x c e)).trans e'⟩
  · obtain ⟨v, r, i⟩ := st.pre.view x d e
    refine ⟨v, ?_, i⟩
    rcases r with ⟨h1, m', h2, h3⟩ | ⟨h1, c, h3, h4⟩
    · exact .inl ⟨h1, m', nsk h2, h3⟩
    · exact .inr ⟨h1, c, h3, h4.sameBut hs (d2 x c h3)⟩
  · rcases List.mem_cons.mp hp with e | hp
    · subst e; exact ⟨ha, b, c, d1, d2⟩
    · obtain ⟨a', b', c', d'⟩ := st.ownAt p (.tail _ hp)
      exact ⟨a'.mono (fun _ _ => id) (hs.2 _ fun e => hn.1 (e ▸ List.mem_map.mpr ⟨p, hp, rfl⟩)), b', c', d'⟩
  · obtain ⟨a', b', v, d'⟩ := st.cel y c' h0 h1 h2
    exact ⟨a', b', v, d'.sameBut hs (d2 y c' h2)⟩

/-- the scope of a comprehension within a frame -/
def relab (scope sc : Scope) : Scope := { scope with names := scope.names.map fun (n, k) => if (k == .free && sc.kind == .function && sc.names.lookup n == some .cell) then (n, .cell) else (n, k) }
def seen (F : Fm) (scope : Scope) (y : Str) : Bool := scope.names.lookup y == some .free && (F.sc.names.lookup y == some .cell || (F.sc.names.lookup y == some .free && !(y == ("__classdict__" : Str))))
def compLook (F : Fm) (scope : Scope) (look : Look) : Look := fun y => if seen F scope y then look y else none
abbrev Fm.comp (F : Fm) (scope : Scope) : Fm := ⟨relab scope F.sc, F.code, .none⟩

theorem closFrom_sub (cells : List (Str × Addr)) : ∀ (names : List (Str × NameKind)) (acc : List (Str × Addr)), (∀ z c, acc.lookup z = some c → cells.lookup z = some c) → (∀ z ∈ names, z.2 = .free → ∃ c, cells.lookup z.1 = some c) → ∀ y c, (closFrom cells names acc).lookup y = some c → cells.lookup y = some c
  | [], acc, ha, _, y, c, h => ha y c h
  | (z, k) :: r, acc, ha, hall, y, c, h => by
    have hall' : ∀ z ∈ r, z.2 = .free → ∃ c, cells.lookup z.1 = some c := fun z hz => hall z (.tail _ hz)
    unfold closFrom at h
    by_cases hk : (k == NameKind.free) = true
    · rw [if_pos hk] at h
      obtain ⟨cz, hz⟩ := hall (z, k) (.head _) (beq_iff_eq.mp hk)
      have hz : cells.lookup z = some cz := hz
      refine closFrom_sub cells r _ (fun z' c' e => ?_) hall' y c h
      rw [List.lookup_cons] at e
      cases q : z' == z with
      | true => rw [q] at e; cases e; rw [beq_iff_eq.mp q, hz]; rfl
      | false => rw [q] at e; exact ha z' c' e
    · rw [if_neg hk] at h
      exact closFrom_sub cells r acc ha hall' y c h
theorem lookup_relab : ∀ {names : List (Str × NameKind)} {sc : Scope} {x : Str}, (names.map fun (n, k) => if (k == NameKind.free && sc.kind == .function && sc.names.lookup n == some .cell) then (n, NameKind.cell) else (n, k)).lookup x =
    (names.lookup x).map fun k => if (k == NameKind.free && sc.kind == .function && sc.names.lookup x == some .cell) then NameKind.cell else k
  | [], _, _ => rfl
  | (n, k) :: r, sc, x => by
    have ih := @lookup_relab r sc x
    show List.lookup x ((if (k == NameKind.free && sc.kind == .function && sc.names.lookup n == some .cell) = true then (n, NameKind.cell) else (n, k)) :: _) = _
    cases hx : x == n with
    | true =>
      have e := beq_iff_eq.mp hx
      subst e
      by_cases hc : (k == NameKind.free && sc.kind == .function && sc.names.lookup x == some .cell) = true
      · rw [if_pos hc]; simp only [List.lookup_cons, hx, Option.map_some, if_pos hc]
      · rw [if_neg hc]; simp only [List.lookup_cons, hx, Option.map_some, if_neg hc]
    | false =>
      by_cases hc : (k == NameKind.free && sc.kind == .function && sc.names.lookup n == some .cell) = true
      · rw [if_pos hc]; simp only [List.lookup_cons, hx]; exact ih
      · rw [if_neg hc]; simp only [List.lookup_cons, hx]; exact ih

theorem compFrame {scope : Scope} {x0 : OwnO} {o0 od : Obj} {h' : Heap} {tk : Nat} {m : Str → Option Value} (p : Pre hk H F env look L s) (ow : Ow hk H B own L s) (hcl : ∀ y, scope.names.lookup y ≠ some .cell) (hkd : scope.kind = .function)
    (hfree : ∀ y ∈ scope.names, y.2 = .free → F.sc.names.lookup y.1 = some .cell ∨ F.sc.names.lookup y.1 = some .free) (hf0 : o0.isFreed = false) (ho0 : ∀ h : Heap, h.get? s.heap.objs.size = some o0 → OwnAt hk L h s.heap.objs.size x0)
    (hoc : ∀ p ∈ own, ∀ x c, env.cells.lookup x = some c → c ≠ p.1) (hn : h'.Ns (s.heap.push o0).objs.size m) (hs : Heap.SameBut (s.heap.push o0).objs.size ((s.heap.push o0).push od) h') :
    St hk H B (F.comp scope) [] (compEnvC scope (closFrom env.cells scope.names []) (s.heap.push o0).objs.size env) (compLook F scope look) ((s.heap.objs.size, x0) :: own) L { s with heap := h', toks := tk } := by
  have hC : (s.heap.push o0).objs.size = s.heap.objs.size + 1 := Heap.size_push ..
  have lt : ∀ {a : Addr} {o : Obj}, s.heap.get? a = some o → a ≠ s.heap.objs.size ∧ a ≠ (s.heap.push o0).objs.size := fun e => ⟨Nat.ne_of_lt (Heap.lt_size e), hC ▸ Nat.ne_of_lt (Nat.lt_succ_of_lt (Heap.lt_size e))⟩
  have DC : s.heap.objs.size ≠ (s.heap.push o0).objs.size := hC ▸ Nat.ne_of_lt (Nat.lt_succ_self _)
  have old : ∀ b o, s.heap.get? b = some o → h'.get? b = some o := fun b o e =>
    (hs.2 b (lt e).2).trans (Heap.get?_push_of_some _ (Heap.get?_push_of_some _ e))
  have hD : h'.get? s.heap.objs.size = some o0 := (hs.2 _ DC).trans (Heap.get?_push_of_some _ (Heap.get?_push_size _ hf0))
  have q : Pure H s { s with heap := h', toks := tk } := .all p.inv old
  have nD : s.heap.get? s.heap.objs.size = none := get_size _
  have nC : s.heap.get? (s.heap.push o0).objs.size = none := by
    cases z : s.heap.get? (s.heap.push o0).objs.size with
    | none => rfl
    | some o => exact absurd rfl (lt z).2
  have nL : ∀ {a : Addr}, s.heap.get? a = none → ∀ o, ¬ L a o := fun e o h => by rw [(p.led _ _ h).1] at e; cases e
  have hall : ∀ z ∈ scope.names, z.2 = .free → ∃ c, env.cells.lookup z.1 = some c := fun z hz e => p.has z.1 (hfree z hz e)
  have sub := closFrom_sub env.cells scope.names [] (fun _ _ e => (nomatch e)) hall
  refine ⟨⟨q.inv, p.led.keep q.keep, ?_, hkd, p.glob, p.blt, p.code, fun q e => (nomatch e), fun x hx => ?_, fun x c e => ?_, fun x d e => ?_⟩, ow.inv0, ow.no, ow.pure.step q, ow.base, ow.sub, fun pr hp => ?_, ?_, ⟨.inl (ow.pure.none nC), nL nC, m, hn⟩, fun x c h0 => (nomatch h0), ⟨fun x _ _ h0 => (nomatch h0), fun x c e => ?_⟩⟩
  · show relabel scope env = relab scope F.sc
    rw [← p.scope]; rfl
  · have hl : (relab scope F.sc).names.lookup x = _ := lookup_relab
    have hx' : scope.names.lookup x = some .free := by
      have hx2 : (relab scope F.sc).names.lookup x = some .cell ∨ (relab scope F.sc).names.lookup x = some .free := hx
      rw [hl] at hx2
      cases z : scope.names.lookup x with
      | none => rw [z] at hx2; simp at hx2
      | some k =>
        rw [z, Option.map_some] at hx2
        by_cases hk : k = .free
        · rw [hk]
        · have : (k == NameKind.free) = false := by simpa using hk
          rw [this] at hx2
          simp only [Bool.false_and, Bool.false_eq_true, if_false, Option.some.injEq] at hx2
          rcases hx2 with e | e
          · exact (hcl x (by rw [z, e])).elim
          · exact (hk e).elim
    obtain ⟨c, hc⟩ := hall (x, .free) (mem_of_lookup hx') rfl
    exact ⟨c, closFrom_lookup env.cells scope.names [] x c hc (.inl (mem_of_lookup hx')) (fun _ _ e => (nomatch e)) hall⟩
  · obtain ⟨o, e'⟩ := p.cthere x c (sub x c e)
    exact ⟨o, old c o e'⟩
  · unfold compLook at e
    by_cases hsn : seen F scope x = true
    · rw [if_pos hsn] at e
      obtain ⟨v, r, i⟩ := p.view x d e
      refine ⟨v, ?_, i⟩
      unfold seen at hsn
      rw [Bool.and_eq_true] at hsn
      obtain ⟨h1, h2⟩ := hsn
      have hx' : scope.names.lookup x = some .free := by simpa using h1
      have kind : env.kindOf x = F.sc.names.lookup x := by unfold Env.kindOf; rw [p.scope]
      have hkx : (relab scope F.sc).names.lookup x = if (F.sc.kind == .function && F.sc.names.lookup x == some .cell) then some .cell else some .free := by
        show _ = _
        have := @lookup_relab scope.names F.sc x
        have e2 : (relab scope F.sc).names.lookup x = (scope.names.lookup x).map fun k => if (k == NameKind.free && F.sc.kind == .function && F.sc.names.lookup x == some .cell) then NameKind.cell else k := this
        rw [e2, hx', Option.map_some]
        simp only [beq_self_eq_true, Bool.true_and]
        split <;> rfl
      have hkf : (F.sc.kind == ScopeKind.function) = true := by rw [p.kind]; rfl
      have henv : ∀ (C : Addr), (compEnvC scope (closFrom env.cells scope.names []) C env).kindOf x = (relab scope F.sc).names.lookup x := fun C => by
        show (relabel scope env).names.lookup x = _
        rw [← p.scope]; rfl
      rcases r with ⟨hl, _⟩ | ⟨hl, c, hc, hv⟩
      · rw [kind] at hl; rw [hl] at h2; simp at h2
      · have hc' := closFrom_lookup env.cells scope.names [] x c hc (.inl (mem_of_lookup hx')) (fun _ _ e => (nomatch e)) hall
        refine .inr ⟨?_, c, hc', IsCell.keep hv q.keep⟩
        rw [henv, hkx]
        rcases hl with hl | ⟨hl, hq⟩
        · rw [kind] at hl
          rw [hl, hkf]; exact .inl rfl
        · rw [kind] at hl
          rw [hl, hkf]; exact .inr ⟨rfl, hq⟩
    · rw [if_neg hsn] at e; cases e
  · rcases List.mem_cons.mp hp with e | hp
    · subst e
      exact ⟨ho0 _ hD, .inl (ow.pure.none nD), nL nD, DC, fun x c e => by
        obtain ⟨o, e'⟩ := p.cthere x c (sub x c e); exact (lt e').1⟩
    · obtain ⟨a, b, c⟩ := ow.ownAt pr hp
      obtain ⟨o, ho⟩ := a.there
      exact ⟨a.keep (fun _ _ => id) q.keep, b, c, (lt ho).2, fun x c' e => hoc pr hp x c' (sub x c' e)⟩
  · rw [List.map_cons, List.nodup_cons]
    refine ⟨fun hm => ?_, ow.nodup⟩
    obtain ⟨p', hp', e⟩ := List.mem_map.mp hm
    obtain ⟨o, ho⟩ := (ow.ownAt p' hp').1.there
    exact (lt ho).1 e
  · obtain ⟨o, e'⟩ := p.cthere x c (sub x c e)
    exact (lt e').2
end
end Mine
end

section -- B9
open PySem PySem.Calls PySem.W PyProof.Rows
set_option maxRecDepth 100000
set_option linter.unusedVariables false
namespace Mine
/-- the tests and the element of one turn -/
def TURNL (prog : Program) (w : World) (hk : PD → Int) (H : Heap) (n : Nat) (F : Fm) (look : Look) (o : Own) (ifs : List Expr) (elt : Expr) (K : Option PD → Own → Prop) : Prop :=
  ∀ (A : Around) (B : Bs) (s : Shared) (L : Led) (env : Env) (D : Addr) (x : OwnO), Ok n A → St hk H B F [] env look ((D, x) :: o) L s →
    wpAny (model prog w) A (testsOf ifs env) (fun b s₁ => if b = true then wpAny (model prog w) A (eval elt env) (fun v s₂ => ∃ o' L' d, K (some d) o' ∧ St hk H B F [] env look ((D, x) :: o') L' s₂ ∧ Is hk L' v d) (fun _ _ => False) s₁
      else ∃ o' L', K none o' ∧ St hk H B F [] env look ((D, x) :: o') L' s₁) (fun _ _ => False) s
/-- the tests alone -/
def ETS (prog : Program) (w : World) (hk : PD → Int) (H : Heap) (n : Nat) (F : Fm) (look : Look) (ifs : List Expr) (b : Bool) : Prop :=
  ∀ (A : Around) (s : Shared) (L : Led) (env : Env), Ok n A → Pre hk H F env look L s → wpAny (model prog w) A (testsOf ifs env) (fun t s' => t = b ∧ Pure H s s') (fun _ _ => False) s
section
variable {prog : Program} {w : World} {hk : PD → Int} {H : Heap} {n : Nat} {F : Fm} {wc : List Str} {look : Look} {own own' : Own} {A : Around} {B : Bs} {s s' : Shared} {L L' L₂ Lw : Led} {env : Env} {t : Expr} {items : List Item} {W : Wk}
theorem ETS.nil : ETS prog w hk H n F look [] true := fun A s L env ok p => wpAny_tests_nil ⟨rfl, .refl p.inv⟩
theorem ETS.one {c : Expr} {b : Bool} (h : ET prog w hk H n F look c b) : ETS prog w hk H n F look [c] b := fun A s L env ok p => wpAny_tests_one (h A s L env ok p)
theorem TURNL.pure {o : Own} {ifs : List Expr} {elt : Expr} {K : Option PD → Own → Prop} {d : PD} (ht : ETS prog w hk H n F look ifs true) (h : EV prog w hk H n F look elt d) (k : K (some d) o) : TURNL prog w hk H n F look o ifs elt K := fun A B s L env D x ok st =>
  wpAny_mono (ht A s L env ok st.pre) (fun b s₁ e => by
    obtain ⟨rfl, q⟩ := e
    rw [if_pos rfl]
    exact h.use ok (st.step q).pre fun v s₂ q₂ i p₂ => ⟨o, _, d, k, (st.step q).step q₂, i⟩) fun _ _ f => f
theorem TURNL.skip {o : Own} {ifs : List Expr} {elt : Expr} {K : Option PD → Own → Prop} (ht : ETS prog w hk H n F look ifs false) (k : K none o) : TURNL prog w hk H n F look o ifs elt K := fun A B s L env D x ok st =>
  wpAny_mono (ht A s L env ok st.pre) (fun b s₁ e => by
    obtain ⟨rfl, q⟩ := e
    exact ⟨o, _, k, st.step q⟩) fun _ _ f => f

theorem comp_list_loop {R : Result → Shared → Prop} {elt iter : Expr} {ifs : List Expr} {scope : Scope} {pos : Pos} {f : Item → Look → Look} {D : Addr} (wk : WkOk prog w hk t W items Lw) (ok : Ok n A) (hsz : items.length ≤ sizeLine)
    (J : Nat → List PD → Own → Prop) (hJo : ∀ i ys o, J i ys o → o.map (·.1) = own.map (·.1) ∧ ys.length ≤ i)
    (tg : ∀ x ∈ items, TGI prog w hk H F [] t x (f x)) (hf : ∀ x ∈ items, ∀ y d, look y = some d → f x look y = some d)
    (hb : ∀ i x ys o, items[i]? = some x → J i ys o → TURNL prog w hk H n F (f x look) o ifs elt fun r o' => J (i + 1) (ys ++ r.toList) o')
    (h0 : J 0 [] own) (ls0 : LS hk H W Lw B F [] env look ((D, .lst []) :: own) L 0 s)
    (hR : ∀ ys o L' s', J items.length ys o → St hk H B F [] env look ((D, .lst ys) :: o) L' s' → R (.ok .next) s') :
    codeAny (model prog w) A (.compLoop (.ListComp elt [⟨t, iter, ifs, 0⟩] scope pos) 0 (.ref W.I) (.ref D) env) R s := by
  refine compLoop_list (fun k s' => ∃ i ys o L', J i ys o ∧ LS hk H W Lw B F [] env look ((D, .lst ys) :: o) L' i s' ∧ i ≤ items.length ∧ k = items.length + 1 - i) ?_ (items.length + 1) ⟨0, [], own, L, h0, ls0, Nat.zero_le _, rfl⟩
  rintro k s' ⟨i, ys, o, L', hJ, ls, hi, rfl⟩
  by_cases hlt : i < items.length
  · refine ls.item wk ok.handled (x := items[i]) (List.getElem?_eq_getElem hlt) fun v s₃ hgo => hgo _ _ fun s₄ ls₄ iv => ?_
    have it : items[i]? = some items[i] := List.getElem?_eq_getElem hlt
    refine tg items[i] (List.getElem_mem _) A _ s₄ L' env look _ v _ _ ok.handled ls₄.st.rebase iv fun s₅ L₅ _ st₅ => ?_
    refine wpAny_mono (hb i _ ys o it hJ A _ s₅ L₅ env D _ ok st₅) (fun b s₆ e => ?_) fun _ _ f => f.elim
    have next : ∀ ys' o' L'' s₇, J (i + 1) ys' o' → St hk H (St.there ((D, .lst ys) :: o) [] F env L' s₄) F [] env (f items[i] look) ((D, .lst ys') :: o') L'' s₇ → ∃ m, m < items.length + 1 - i ∧ ∃ i ys o L', J i ys o ∧ LS hk H W Lw B F [] env look ((D, .lst ys) :: o) L' i s₇ ∧ i ≤ items.length ∧ m = items.length + 1 - i := fun ys' o' L'' s₇ hJ' st' =>
      ⟨items.length + 1 - (i + 1), by omega, i + 1, ys', o', L'', hJ', ls₄.back wk (st'.less (hf _ (List.getElem_mem _))) (by rw [List.map_cons, List.map_cons, (hJo _ _ _ hJ').1, (hJo _ _ _ hJ).1]), hlt, rfl⟩
    cases b with
    | false =>
      rw [if_neg (by decide)] at e ⊢
      obtain ⟨o', L'', k, st'⟩ := e
      exact next ys o' L'' s₆ (by simpa using k) st'
    | true =>
      rw [if_pos rfl] at e ⊢
      refine wpAny_mono e (fun x s₇ e => ?_) fun _ _ f => f
      obtain ⟨o', L'', d, k, st', iv'⟩ := e
      obtain ⟨vs, n', hD, iA⟩ := (st'.ownAt _ (.head _)).1
      refine wpAny_list_append_plain (hsz := ?_) ⟨n', hD⟩ fun h' hl' hs' => ?_
      · obtain ⟨n'', hl''⟩ := hl'
        refine next (ys ++ [d]) o' L'' _ k (St.own1 (tk := s₇.toks) st' hs' ⟨vs.push x, n'', hl'', ?_⟩)
        rw [Array.toList_push]
        exact iA.append (.cons iv' .nil)
      · have h1 := iA.length
        have h2 := (hJo _ _ _ hJ).2
        have h3 : vs.toList.length = vs.size := Array.length_toList
        omega
  · have hin : i = items.length := by omega
    subst hin
    exact ls.done wk ok.handled rfl fun s₃ st₃ => hR ys o L' s₃ hJ st₃

/-- how a list comprehension goes, from an expression's place -/
theorem comp_list {elt iter : Expr} {ifs : List Expr} {scope : Scope} {pos : Pos} {use : Option (Value → Sem Unit)} {f : Item → Look → Look} {Q : Value → Shared → Prop} {E : Value → Shared → Prop} (ok : Ok n A) (p : Pre hk H F env look L s)
    (hit : IT prog w hk H n F look iter t items) (hsz : items.length ≤ sizeLine)
    (hcl : ∀ y ∈ scope.names, y.2 ≠ .cell) (hkd : scope.kind = .function) (hnames : ∀ x ∈ scope.names, x.2 = .local → scope.names.lookup x.1 = some .local) (hfree : ∀ y ∈ scope.names, y.2 = .free → F.sc.names.lookup y.1 = some .cell ∨ F.sc.names.lookup y.1 = some .free)
    (hs : ∀ x, foldedSetIterable iter env x = pure x)
    (J : Nat → List PD → Own → Prop) (hJo : ∀ i ys o, J i ys o → o.map (·.1) = own.map (·.1) ∧ ys.length ≤ i) (h0 : J 0 [] own)
    (tg : ∀ x ∈ items, TGI prog w hk H (F.comp scope) [] t x (f x)) (hf : ∀ x ∈ items, ∀ y d, compLook F scope look y = some d → f x (compLook F scope look) y = some d)
    (hb : ∀ i x ys o, items[i]? = some x → J i ys o → TURNL prog w hk H n (F.comp scope) (f x (compLook F scope look)) o ifs elt fun r o' => J (i + 1) (ys ++ r.toList) o')
    (hown : ∀ s₂ L₂, Pure H s s₂ → (∀ a o, L a o → L₂ a o) → Holds H L₂ s₂.heap → (∀ a o, L₂ a o → L a o ∨ s.heap.get? a = none) → Ow hk H B own L₂ s₂) (hoc : ∀ p ∈ own, ∀ x c, env.cells.lookup x = some c → c ≠ p.1) (hwn : ∀ b, s.heap.get? b = none → B.s₀.heap.get? b = none)
    (hol : ∀ p ∈ own, (∃ o, s.heap.get? p.1 = some o) ∧ ∀ o, ¬ L p.1 o)
    (hQ : ∀ ys o L' s' D C, J items.length ys o → s.heap.get? C = none → Ow hk H B o L' s' → Is hk L' (.ref D) (.list ys) → (∃ m, s'.heap.Ns C m) → (∀ p ∈ o, p.1 ≠ C) → (∀ o, ¬ L' C o) → compPost (model prog w) A E use Q (.ref D) C (.ok .next) s') :
    wpAny (model prog w) A (comprehension (.ListComp elt [⟨t, iter, ifs, 0⟩] scope pos) scope env iter.pos (newList []) false (eval iter env) use) Q E s := by
  have hclos : closureFor scope env = pure (closFrom env.cells scope.names []) := closureFor_eq fun y hy e => p.has y.1 (hfree y hy e)
  refine wpAny_comprehension_free (g := ⟨t, iter, ifs, 0⟩) (gs := []) rfl hs hclos hkd hnames (wpAny_mono (hit A s L env ok p) (fun x s₁ h₁ => wpAny_mono h₁ (fun it s₂ h₂ => ?_) fun _ _ f => f.elim) fun _ _ f => f.elim)
  obtain ⟨W, L₂, rfl, wk, q, sub, ho, hb₂, hS, hwr⟩ := h₂
  have K := wk.turns A ok.handled
  refine wpAny_newObj_type (wpAny_newFunctionEnv hcl (by intro y hy; simp at hy) (fun h₁ hns₁ hsb₁ => ?_) hkd)
  have p₂ : Pre hk H F env look L₂ s₂ := { p.pure q with led := ho, view := fun x d e => let ⟨v, r, i⟩ := p.view x d e; ⟨v, r.keep q.keep, i.mono sub⟩ }
  have ow₂ := hown s₂ L₂ q sub ho hb₂
  have cell0 : ∀ y, scope.names.lookup y ≠ some .cell := fun y e => hcl _ (mem_of_lookup e) rfl
  have st := compFrame (tk := s₂.toks + ([] : List (Str × Value)).length) (scope := scope) (x0 := .lst []) (h' := h₁) p₂ ow₂ cell0 hkd hfree rfl (fun h e => ⟨_, _, e, .nil⟩) hoc hns₁ hsb₁
  have size1 : (s₂.heap.push ({ cls := .type "list", data := .seq ([] : List Value).toArray } : Obj)).objs.size = s₂.heap.objs.size + 1 := Heap.size_push ..
  have hlt : ∀ b ∈ W.fp, b < s₂.heap.objs.size := fun b hb => let ⟨o, e⟩ := wk.here _ _ hS b hb; Heap.lt_size e
  have nD : s₂.heap.objs.size ∉ W.fp := fun h => Nat.lt_irrefl _ (hlt _ h)
  have nC : (s₂.heap.push ({ cls := .type "list", data := .seq ([] : List Value).toArray } : Obj)).objs.size ∉ W.fp := fun h => by have := hlt _ h; rw [size1] at this; exact Nat.lt_irrefl _ (Nat.lt_of_succ_lt this)
  have old : ∀ b o, s₂.heap.get? b = some o → h₁.get? b = some o := fun b o e =>
    (hsb₁.2 b (by rw [size1]; exact Nat.ne_of_lt (Nat.lt_succ_of_lt (Heap.lt_size e)))).trans (Heap.get?_push_of_some _ (Heap.get?_push_of_some _ e))
  have hS₁ : W.S 0 h₁ := K.frame _ _ _ hS fun b _ o e => old b o e
  have nf : ∀ b, (∃ o, s.heap.get? b = some o) → (∀ o, ¬ L b o) → b ∉ W.fp := fun b ⟨o, e⟩ nl hf => by
    rcases wk.src b hf with h | ⟨o', h⟩
    · rw [hwr b h] at e; cases e
    · rcases hb₂ b o' h with h | h
      · exact nl _ h
      · rw [h] at e; cases e
  have sub' := closFrom_sub env.cells scope.names [] (fun _ _ e => (nomatch e)) fun z hz e => p.has z.1 (hfree z hz e)
  have ls0 : LS hk H W L₂ B (F.comp scope) [] (compEnvC scope (closFrom env.cells scope.names []) (s₂.heap.push ({ cls := .type "list", data := .seq ([] : List Value).toArray } : Obj)).objs.size env) (compLook F scope look) ((s₂.heap.objs.size, .lst []) :: own) L₂ 0
      { s₂ with heap := h₁, toks := s₂.toks + ([] : List (Str × Value)).length } := ⟨st, hS₁, wk.apart, fun _ _ => id, fun pr hp => ?_, nC, fun x c e hm => ?_, fun x c h0 => (nomatch h0), fun b hb => hwn b (hwr b hb)⟩
  · have nCs : s.heap.get? (s₂.heap.push ({ cls := .type "list", data := .seq ([] : List Value).toArray } : Obj)).objs.size = none := q.keep.none (by
      cases z : s₂.heap.get? (s₂.heap.push ({ cls := .type "list", data := .seq ([] : List Value).toArray } : Obj)).objs.size with
      | none => rfl
      | some o => exact absurd (Heap.lt_size z) (by rw [size1]; exact Nat.not_lt.mpr (Nat.le_succ _)))
    have done : codeAny (model prog w) A (.compLoop (.ListComp elt [⟨t, iter, ifs, 0⟩] scope pos) 0 (.ref W.I) (.ref s₂.heap.objs.size) (compEnvC scope (closFrom env.cells scope.names []) (s₂.heap.push ({ cls := .type "list", data := .seq ([] : List Value).toArray } : Obj)).objs.size env))
        (compPost (model prog w) A E use Q (.ref s₂.heap.objs.size) (s₂.heap.push ({ cls := .type "list", data := .seq ([] : List Value).toArray } : Obj)).objs.size) { s₂ with heap := h₁, toks := s₂.toks + ([] : List (Str × Value)).length } := by
      refine comp_list_loop wk ok hsz J hJo tg hf hb h0 ls0 fun ys o L' s' hJ st' => ?_
      obtain ⟨L'', st'', i'', sub'', src''⟩ := st'.freeze
      obtain ⟨m, hm⟩ := st''.loc.2.2
      exact hQ ys o L'' s' _ _ hJ nCs st''.ow i'' ⟨m, hm⟩ (fun p hp => (st''.ownAt p hp).2.2.2.1) st''.loc.2.1
    exact codeAny_compStart_list done (wk.self A 0 _ _ _ ok.handled hS₁ done)
  · rcases List.mem_cons.mp hp with e | hp
    · subst e; exact nD
    · exact nf _ (hol pr hp).1 (hol pr hp).2
  · obtain ⟨o, e'⟩ := p.cthere x c (sub' x c e)
    rw [hwr c hm] at e'; cases e'
end
end Mine
end

section -- B10
open PySem PySem.Calls PySem.W PyProof.Rows
set_option maxRecDepth 100000
set_option linter.unusedVariables false
namespace Mine
/-- one turn of a comprehension: an element, or none -/
def TURN (prog : Program) (w : World) (hk : PD → Int) (H : Heap) (n : Nat) (F : Fm) (look : Look) (ifs : List Expr) (elt : Expr) : Option PD → Prop
  | some d => ETS prog w hk H n F look ifs true ∧ EV prog w hk H n F look elt d
  | .none => ETS prog w hk H n F look ifs false
section
variable {prog : Program} {w : World} {hk : PD → Int} {H : Heap} {n : Nat} {F : Fm} {wc : List Str} {look : Look} {own own' : Own} {A : Around} {B : Bs} {s s' : Shared} {L L' L₂ Lw : Led} {env : Env} {t : Expr} {items : List Item} {W : Wk} {G : Goal}
theorem Pure.tail {C : Addr} {h' : Heap} (q : Pure H s s') (i0 : Inv H s.heap) (hC : s.heap.get? C = none) (hn : ∃ m, s'.heap.Ns C m) (hs : Heap.SameBut C s'.heap h') : Pure H s { s' with heap := h' } := by
  have ne : ∀ b o, s.heap.get? b = some o → b ≠ C := fun b o e q => by rw [q, hC] at e; cases e
  exact ⟨⟨fun a o e c => (hs.2 a (ne a o e)).trans (q.keep.keep a o e c), fun a o e => let ⟨o', e'⟩ := q.keep.there a o e; ⟨o', (hs.2 a (ne a o e)).trans e'⟩⟩,
    q.inv.but (X := fun b => b = C) (fun a e => e ▸ i0.none hC) (fun a o x e => e ▸ RecAt.ns hn.choose_spec o x) fun b o n e => (hs.2 b n).trans e, q.gens, q.bare, q.os⟩
theorem Ow.frozen {C : Addr} {h' : Heap} {v : Value} {d : PD} {own : Own} (ow : Ow hk H ⟨s, L, fun _ => False⟩ own L' s') (i : Is hk L' v d) (hC : ∀ o, ¬ L' C o) (hs : Heap.SameBut C s'.heap h') : Is hk (L.or (Fresh H s.heap h')) v d :=
  i.mono fun a o e => by
    rcases ow.base a o e with e' | e' | e'
    · exact .inl e'
    · exact .inr ⟨e', (hs.2 a fun q => hC o (q ▸ e)).trans (ow.led a o e).1, (ow.led a o e).2⟩
    · exact e'.elim
/-- what a comprehension's scope must be -/
structure ScOk (F : Fm) (scope : Scope) : Prop where
  cell : ∀ y ∈ scope.names, y.2 ≠ .cell
  kind : scope.kind = .function
  names : ∀ x ∈ scope.names, x.2 = .local → scope.names.lookup x.1 = some .local
  free : ∀ y ∈ scope.names, y.2 = .free → F.sc.names.lookup y.1 = some .cell ∨ F.sc.names.lookup y.1 = some .free

theorem eval_listComp {elt iter : Expr} {ifs : List Expr} {scope : Scope} {pos : Pos} : eval (.ListComp elt [⟨t, iter, ifs, 0⟩] scope pos) env = comprehension (.ListComp elt [⟨t, iter, ifs, 0⟩] scope pos) scope env iter.pos (newList []) false (eval iter env) := by
  rw [arm_eval_ListComp]; rfl

theorem pure_comp {elt iter : Expr} {ifs : List Expr} {scope : Scope} {pos : Pos} {use : Option (Value → Sem Unit)} {f : Item → Look → Look} {g : Item → Option PD} {Q : Value → Shared → Prop} {E : Value → Shared → Prop} (ok : Ok n A) (p : Pre hk H F env look L s)
    (hit : IT prog w hk H n F look iter t items) (hsz : items.length ≤ sizeLine) (hsc : ScOk F scope) (hs : ∀ x, foldedSetIterable iter env x = pure x)
    (tg : ∀ x ∈ items, TGI prog w hk H (F.comp scope) [] t x (f x)) (hf : ∀ x ∈ items, ∀ y d, compLook F scope look y = some d → f x (compLook F scope look) y = some d)
    (hb : ∀ x ∈ items, TURN prog w hk H n (F.comp scope) (f x (compLook F scope look)) ifs elt (g x))
    (hQ : ∀ L' s' D C, s.heap.get? C = none → Ow hk H ⟨s, L, fun _ => False⟩ [] L' s' → Is hk L' (.ref D) (.list (items.filterMap g)) → (∃ m, s'.heap.Ns C m) → (∀ o, ¬ L' C o) → compPost (model prog w) A E use Q (.ref D) C (.ok .next) s') :
    wpAny (model prog w) A (comprehension (.ListComp elt [⟨t, iter, ifs, 0⟩] scope pos) scope env iter.pos (newList []) false (eval iter env) use) Q E s := by
  refine comp_list (own := []) (B := ⟨s, L, fun _ => False⟩) ok p hit hsz hsc.cell hsc.kind hsc.names hsc.free hs (fun i ys o => ys = (items.take i).filterMap g ∧ o = []) ?_ ?_ tg hf ?_ (fun s₂ L₂ q sub ho hb => .pure0 p.inv q sub ho hb) (fun _ h => (nomatch h)) (fun _ e => e) (fun _ h => (nomatch h)) ?_
  · rintro i ys o ⟨rfl, rfl⟩
    exact ⟨rfl, Nat.le_trans (List.length_filterMap_le _ _) (by rw [List.length_take]; exact Nat.min_le_left _ _)⟩
  · exact ⟨by simp, rfl⟩
  · rintro i x ys o hx ⟨rfl, rfl⟩
    have hm := List.mem_of_getElem? hx
    have step : (items.take (i + 1)).filterMap g = (items.take i).filterMap g ++ (g x).toList := by
      rw [List.take_add_one, hx, List.filterMap_append]
      cases hg : g x <;> simp [hg]
    have := hb x hm
    cases hg : g x with
    | none => rw [hg] at this step; exact .skip this ⟨step.symm, rfl⟩
    | some d => rw [hg] at this step; exact .pure this.1 this.2 ⟨step.symm, rfl⟩
  · rintro ys o L' s' D C ⟨rfl, rfl⟩ hC ow i hn _ hl
    rw [List.take_length] at i
    exact hQ L' s' D C hC ow i hn hl
theorem EV.listComp {elt iter : Expr} {ifs : List Expr} {scope : Scope} {pos : Pos} {f : Item → Look → Look} {g : Item → Option PD} 
    (hit : IT prog w hk H n F look iter t items) (hsz : items.length ≤ sizeLine) (hsc : ScOk F scope)
    (tg : ∀ x ∈ items, TGI prog w hk H (F.comp scope) [] t x (f x)) (hf : ∀ x ∈ items, ∀ y d, compLook F scope look y = some d → f x (compLook F scope look) y = some d)
    (hb : ∀ x ∈ items, TURN prog w hk H n (F.comp scope) (f x (compLook F scope look)) ifs elt (g x))
    (hs : ∀ env x, foldedSetIterable iter env x = pure x := by intro _ _; rfl) :
    EV prog w hk H n F look (.ListComp elt [⟨t, iter, ifs, 0⟩] scope pos) (.list (items.filterMap g)) := fun A s L env ok p => by
  rw [eval_listComp]
  refine pure_comp ok p hit hsz hsc (hs env) tg hf hb fun L' s' D C hC ow i ⟨m, hn⟩ hl => ⟨m, hn, fun h' hs' => ⟨?_, ow.frozen i hl hs'⟩⟩
  exact (ow.pure.pure fun _ e => e.elim).tail p.inv hC ⟨m, hn⟩ hs'
/-- a list comprehension whose value a name takes at once -/
theorem EX.assignList {x : Str} {p' apos : Pos} {elt iter : Expr} {ifs : List Expr} {scope : Scope} {pos : Pos} {f : Item → Look → Look} {g : Item → Option PD} {rest : List Stmt}
    (hit : IT prog w hk H n F look iter t items) (hsz : items.length ≤ sizeLine) (hsc : ScOk F scope)
    (tg : ∀ x ∈ items, TGI prog w hk H (F.comp scope) [] t x (f x)) (hf : ∀ x ∈ items, ∀ y d, compLook F scope look y = some d → f x (compLook F scope look) y = some d)
    (hb : ∀ x ∈ items, TURN prog w hk H n (F.comp scope) (f x (compLook F scope look)) ifs elt (g x))
    (k : EX prog w hk H n F wc (upd look x (.list (items.filterMap g))) own rest G)
    (hx : F.sc.names.lookup x = some .local ∨ (F.sc.names.lookup x = some .cell ∧ x ∈ wc) := by first | exact .inl rfl | exact .inr ⟨rfl, by simp⟩)
    (hs : ∀ env x, foldedSetIterable iter env x = pure x := by intro _ _; rfl)
    (hsw : ∀ env, swapsWith (.ListComp elt [⟨t, iter, ifs, 0⟩] scope pos) (some (.Name x p')) apos.line env = pure true := by intro _; rfl)
    (hu : ∀ env use, evalThenUse (.ListComp elt [⟨t, iter, ifs, 0⟩] scope pos) env use = (do let _ ← comprehension (.ListComp elt [⟨t, iter, ifs, 0⟩] scope pos) scope env iter.pos (newList []) false (eval iter env) (some use)) := by intro _ _; rfl) :
    EX prog w hk H n F wc look own (.Assign [.Name x p'] (.ListComp elt [⟨t, iter, ifs, 0⟩] scope pos) apos :: rest) G := .step fun A B s L env ok st => by
  rw [exec_Assign_Name_used _ _ _ _ (hsw env), hu]
  refine wpAny_bind (wpAny_standAt (wpAny_bind (wpAny_bind (pure_comp (E := fun _ _ => False) ok st.pre hit hsz hsc (hs env) tg hf hb fun L' s' D C hC ow i ⟨m, hn⟩ hl => ?_))))
  have q : Pure H s s' := ow.pure.pure fun _ e => e.elim
  have st' : St hk H B F wc env look own L' s' := st.stepL q ow.sub ow.led fun a o e => (ow.base a o e).imp id fun e => e.elim id False.elim
  have ne : ∀ {a : Addr}, (∃ o, s.heap.get? a = some o) → a ≠ C := fun ⟨o, e⟩ q => by rw [q, hC] at e; cases e
  refine wpAny_assign_Name (st'.rebase.store i hx fun s'' st'' => ?_)
  have nX : ¬ (St.there own wc F env L' s').X C := fun e => by
    rcases e with e | ⟨p, hp, e⟩ | ⟨y, h1, h2, h3⟩
    · exact ne (by obtain ⟨_, _, m, c⟩ := st.loc; exact Ns.there c) e.symm
    · exact ne (st.ownAt p hp).1.there e.symm
    · exact ne (st.pre.cthere y C h3) rfl
  have hn'' : s''.heap.Ns C m := by
    obtain ⟨o, es, ep, e, hd, r⟩ := hn
    exact ⟨o, es, ep, st''.pure.keep _ _ e (.inr (.inl fun vs q => by rw [hd] at q; cases q)) nX, hd, r⟩
  refine ⟨m, hn'', fun h' hs' => wpAny_pure (wpAny_pure ⟨_, _, L', k, ?_⟩)⟩
  have stf := st'.back st''
  exact stf.but (tk := s''.toks) (wr := [C]) (fun b hb => by rw [List.mem_singleton.mp hb]; exact st.pure.none hC) (fun b hb => by rw [List.mem_singleton.mp hb]; exact hl)
    (fun p hp h => ne (st.ownAt p hp).1.there (List.mem_singleton.mp h)) (fun h => ne (by obtain ⟨_, _, m, c⟩ := st.loc; exact Ns.there c) (List.mem_singleton.mp h))
    (fun y c e h => ne (st.pre.cthere y c e) (List.mem_singleton.mp h)) (fun b hb => by rw [List.mem_singleton.mp hb]; exact RecAt.ns hn'') (fun b o hb e => (hs'.2 b fun q => hb (by simp [q])).trans e)
end
end Mine
end

section -- B11
open PySem PySem.Calls PySem.W PyProof.Rows
set_option maxRecDepth 100000
set_option linter.unusedVariables false
namespace Mine
section
variable {prog : Program} {w : World} {hk : PD → Int} {H : Heap} {n : Nat} {F : Fm} {wc : List Str} {look : Look} {own own' : Own} {A : Around} {B : Bs} {s s' : Shared} {L L' L₂ Lw : Led} {env : Env} {t : Expr} {items : List Item} {W : Wk} {G : Goal}
theorem IsAll.arr {vs : Array Value} {ds : List PD} (i : IsAll hk L vs.toList ds) : vs.size = ds.length := by rw [← i.length, Array.length_toList]
theorem items_one {vs : Array Value} {ds : List PD} (i : IsAll hk L vs.toList ds) {L' : Led} (sub : ∀ a o, L a o → L' a o) {j : Nat} {v : Value} {x : Item} {h : Heap} (hv : vs[j]? = some v) (hx : (ds.map Item.one)[j]? = some x) : ItemIs hk L' h v x := by
  rw [List.getElem?_map] at hx
  obtain ⟨d, hd, rfl⟩ := Option.map_eq_some_iff.mp hx
  have hv' : vs.toList[j]? = some v := by rw [Array.getElem?_toList]; exact hv
  obtain ⟨d', hd', i'⟩ := i.get hv'
  rw [hd] at hd'; cases hd'
  exact i'.mono sub
theorem noRec_titer {h : Heap} {a l : Addr} {i : Nat} (x : h.IsTupleIter a l i) : ∀ o y, h.get? a = some o → ¬ RecAt o y := fun o y e ⟨vs, t, e1, e2⟩ => by
  obtain ⟨o', e', _, hd⟩ := x
  rw [e] at e'; cases e'
  rw [hd] at e1; cases e1; cases e2
theorem noRec_liter {h : Heap} {a l : Addr} {i : Nat} (x : h.IsListIter a l i) : ∀ o y, h.get? a = some o → ¬ RecAt o y := fun o y e ⟨vs, t, e1, e2⟩ => by
  obtain ⟨o', e', _, hd⟩ := x
  rw [e] at e'; cases e'
  rw [hd] at e1; cases e1; cases e2
theorem IT.tup {e : Expr} {ds : List PD} (h : EV prog w hk H n F look e (.tup ds)) : IT prog w hk H n F look e t (ds.map .one) := fun A s L env ok p => h.use ok p fun v s₁ q i p₁ => by
  cases i with
  | @tup ax lo vs nn _ h1 h2 h3 h4 =>
    have hl : s₁.heap.IsTuple ax vs := ⟨lo, (p₁.led _ _ h1).1, h2, nn, h3⟩
    have hne : ax ≠ s₁.heap.objs.size := Nat.ne_of_lt (Heap.lt_size (p₁.led _ _ h1).1)
    refine wpAny_pyIter_tuple hl ?_
    have q₁ : Pure H s₁ { s₁ with heap := s₁.heap.push { cls := .type "tuple_iterator", data := .fields #[.ref ax, .int 0 0] } } := .push p₁.inv _
    have nI : s.heap.get? s₁.heap.objs.size = none := q.keep.none (get_size _)
    refine ⟨⟨s₁.heap.objs.size, [s₁.heap.objs.size, ax], [s₁.heap.objs.size], vs.size, fun i v _ => vs[i]? = some v, fun i v h => vs[i]? = some v ∧ h.IsTupleIter s₁.heap.objs.size ax (i + 1) ∧ h.IsTuple ax vs, fun i h => h.IsTupleIter s₁.heap.objs.size ax i ∧ h.IsTuple ax vs⟩, L.or (Fresh H s.heap s₁.heap), rfl, ?_, q.trans q₁, fun _ _ => .inl, p₁.led.keep q₁.keep, fun a o e => e.imp id And.left, ?_, ?_⟩
    · refine ⟨fun A hh => KTurns.ofWalks (Walks.tuple hh _ ax hne vs) fun i v s Q E st q => letGo_tupleiter st.1 q, by rw [h4.arr, List.length_map], fun i v h L' x sub hv hx => items_one h4 sub hv hx, fun A i s Q E hh st hQ => (Walks.tuple hh _ ax hne vs).self i s Q E st hQ, fun i h st b hb => ?_, fun b hb => ?_, fun b hb o e => ?_, fun i h st b hb => List.mem_singleton.mp hb ▸ noRec_titer st.1, fun i v h st b hb => List.mem_singleton.mp hb ▸ noRec_titer st.2.1⟩
      · rcases List.mem_cons.mp hb with e | hb
        · obtain ⟨o, ho, _⟩ := st.1; exact ⟨o, e ▸ ho⟩
        · obtain ⟨o, ho, _⟩ := st.2; exact ⟨o, List.mem_singleton.mp hb ▸ ho⟩
      · rcases List.mem_cons.mp hb with e | hb
        · exact .inl (by simp [e])
        · exact .inr ⟨lo, List.mem_singleton.mp hb ▸ h1⟩
      · have e1 := (p₁.led _ _ e).1
        rw [List.mem_singleton.mp hb, get_size] at e1; cases e1
    · exact ⟨⟨_, Heap.get?_push_size _ rfl, rfl, rfl⟩, hl.at fun o e => Heap.get?_push_of_some _ e⟩
    · intro b hb; rw [List.mem_singleton.mp hb]; exact nI
theorem IT.list {e : Expr} {ds : List PD} (h : EV prog w hk H n F look e (.list ds)) : IT prog w hk H n F look e t (ds.map .one) := fun A s L env ok p => h.use ok p fun v s₁ q i p₁ => by
  cases i with
  | @list ax lo vs nn _ h1 h2 h3 h4 =>
    have hl : s₁.heap.IsList ax vs := ⟨lo, (p₁.led _ _ h1).1, h2, nn, h3⟩
    have hne : ax ≠ s₁.heap.objs.size := Nat.ne_of_lt (Heap.lt_size (p₁.led _ _ h1).1)
    refine wpAny_pyIter_list hl ?_
    have q₁ : Pure H s₁ { s₁ with heap := s₁.heap.push { cls := .type "list_iterator", data := .fields #[.ref ax, .int 0 0] } } := .push p₁.inv _
    have nI : s.heap.get? s₁.heap.objs.size = none := q.keep.none (get_size _)
    refine ⟨⟨s₁.heap.objs.size, [s₁.heap.objs.size, ax], [s₁.heap.objs.size], vs.size, fun i v _ => vs[i]? = some v, fun i v h => vs[i]? = some v ∧ h.IsListIter s₁.heap.objs.size ax (i + 1) ∧ h.IsList ax vs, fun i h => h.IsListIter s₁.heap.objs.size ax i ∧ h.IsList ax vs⟩, L.or (Fresh H s.heap s₁.heap), rfl, ?_, q.trans q₁, fun _ _ => .inl, p₁.led.keep q₁.keep, fun a o e => e.imp id And.left, ?_, ?_⟩
    · refine ⟨fun A hh => KTurns.ofWalks (Walks.list hh _ ax hne vs) fun i v s Q E st q => letGo_listiter st.1 q, by rw [h4.arr, List.length_map], fun i v h L' x sub hv hx => items_one h4 sub hv hx, fun A i s Q E hh st hQ => (Walks.list hh _ ax hne vs).self i s Q E st hQ, fun i h st b hb => ?_, fun b hb => ?_, fun b hb o e => ?_, fun i h st b hb => List.mem_singleton.mp hb ▸ noRec_liter st.1, fun i v h st b hb => List.mem_singleton.mp hb ▸ noRec_liter st.2.1⟩
      · rcases List.mem_cons.mp hb with e | hb
        · obtain ⟨o, ho, _⟩ := st.1; exact ⟨o, e ▸ ho⟩
        · obtain ⟨o, ho, _⟩ := st.2; exact ⟨o, List.mem_singleton.mp hb ▸ ho⟩
      · rcases List.mem_cons.mp hb with e | hb
        · exact .inl (by simp [e])
        · exact .inr ⟨lo, List.mem_singleton.mp hb ▸ h1⟩
      · have e1 := (p₁.led _ _ e).1
        rw [List.mem_singleton.mp hb, get_size] at e1; cases e1
    · exact ⟨⟨_, Heap.get?_push_size _ rfl, rfl, rfl⟩, hl.at fun o e => Heap.get?_push_of_some _ e⟩
    · intro b hb; rw [List.mem_singleton.mp hb]; exact nI
end
end Mine
end

section -- B12
open PySem PySem.Calls PySem.W PyProof.Rows
set_option maxRecDepth 100000
set_option linter.unusedVariables false
namespace Mine
theorem mem_lookupA : ∀ {K : Frag} {a : Addr} {o : Obj}, K.lookup a = some o → (a, o) ∈ K
  | [], _, _, e => nomatch e
  | (b, x) :: r, a, o, e => by
    rw [List.lookup_cons] at e
    cases q : a == b with
    | true => rw [q] at e; cases e; rw [beq_iff_eq.mp q]; exact .head _
    | false => rw [q] at e; exact .tail _ (mem_lookupA e)
/-- the objects of K that the top keeps -/
def solidK (K : Frag) : Bool := K.all fun p => match p.2.cls, p.2.data with | .none, .fields _ => false | _, _ => true
theorem KIn.at {K : Frag} {H h : Heap} (X : K.In H) (hs : solidK K = true) (inv : Inv H h) : K.In h := fun a o e => by
  refine inv.kept.keep a o (X a o e) ?_
  have hm := mem_lookupA e
  have := List.all_eq_true.mp hs _ hm
  dsimp only at this
  by_cases hc : o.cls = .none
  · refine .inr (.inl fun vs hd => ?_)
    rw [hc, hd] at this; cases this
  · exact .inl hc

/-- the class of a datum -/
def tyD : PD → Option Value
  | .int _ => some (.type "int")
  | .intz _ => some (.type "int")
  | .strz _ => some (.type "str")
  | .str _ => some (.type "str")
  | .list _ => some (.type "list")
  | .tup _ => some (.type "tuple")
  | .dict _ => some (.type "dict")
  | .obj _ _ _ => some (.ref madeC)
  | .kind _ => some (.ref kindC)
  | .attr _ => some (.ref attrC)
  | .val .none => some (.type "NoneType")
  | .val (.bool _) => some (.type "bool")
  | _ => none
/-- what the class checks ask of an own class -/
def ownOk (K : Frag) (D : Addr) : Bool := plainGet K D "__class__" && hasDictIn K D && (findIn K (.ref D) "__class__" == some (some (.builtin "object.__class__"))) &&
  (specialIn K (.builtin "object.__class__") "__get__" == some (some (.builtin "getset_descriptor.__get__"))) && (takesIn K (.builtin "object.__class__") == some true) && (mroIn K D (.type "object") == some true)
theorem kitx_ownOk {K : Frag} {x D : Addr} {ox od : Obj} (h : ownOk K D = true) : KitX K (.ref x) (.ref D) (fun h => InstAt h x ox D (some od)) := by
  unfold ownOk at h
  simp only [Bool.and_eq_true, beq_iff_eq] at h
  obtain ⟨⟨⟨⟨⟨h1, h2⟩, h3⟩, h4⟩, h5⟩, h6⟩ := h
  exact kitx_own h1 h2 h3 h4 h5 h6
section
variable {prog : Program} {w : World} {hk : PD → Int} {H : Heap} {n : Nat} {F : Fm} {wc : List Str} {look : Look} {own own' : Own} {A : Around} {B : Bs} {s s' : Shared} {L L' L₂ Lw : Led} {env : Env} {K : Frag}
theorem inst_of {x C dx : Addr} {od : Obj} (led : Holds H L s.heap) (h1 : L x (instObj C dx)) (h2 : L dx od) : InstAt s.heap x (instObj C dx) C (some od) := ⟨(led _ _ h1).1, rfl, rfl, (led _ _ h2).1⟩
theorem Is.kitx {v t : Value} {d : PD} (hm : ownOk K madeC = true) (hkd : ownOk K kindC = true) (hat : ownOk K attrC = true) (led : Holds H L s.heap) (i : Is hk L v d) (ht : tyD d = some t) : ∃ P : Heap → Prop, KitX K v t P ∧ P s.heap ∧ v ≠ .builtin "__main__.__loader__#opaque" := by
  cases i with
  | val v =>
    cases v <;> simp [tyD] at ht
    · subst ht; exact ⟨_, kitx_none, trivial, by simp⟩
    · subst ht; exact ⟨_, kitx_bool, trivial, by simp⟩
  | int => simp only [tyD, Option.some.injEq] at ht; subst ht; exact ⟨_, kitx_int, trivial, by simp⟩
  | str => simp only [tyD, Option.some.injEq] at ht; subst ht; exact ⟨_, kitx_str, trivial, by simp⟩
  | list h1 h2 => simp only [tyD, Option.some.injEq] at ht; subst ht; exact ⟨_, kitx_list, ⟨_, (led _ _ h1).1, h2⟩, by simp⟩
  | tup h1 h2 => simp only [tyD, Option.some.injEq] at ht; subst ht; exact ⟨_, kitx_tuple, ⟨_, (led _ _ h1).1, h2⟩, by simp⟩
  | dict h1 h2 => simp only [tyD, Option.some.injEq] at ht; subst ht; exact ⟨_, kitx_dict, ⟨_, (led _ _ h1).1, h2.1⟩, by simp⟩
  | obj h1 h2 h3 h4 => simp only [tyD, Option.some.injEq] at ht; subst ht; exact ⟨_, kitx_ownOk hm, inst_of led h1 h2, by simp⟩
  | kind h =>
    simp only [tyD, Option.some.injEq] at ht; subst ht
    obtain ⟨kd, es, n, ma, mo, mn, aa, ao, an, ea, eo, en, a1, a2, a3, a4, h1, h2, _⟩ := h
    exact ⟨_, kitx_ownOk hkd, inst_of led h1 h2, by simp⟩
  | attr h =>
    simp only [tyD, Option.some.injEq] at ht; subst ht
    obtain ⟨ad, es, n, t1, t2, h1, h2, _⟩ := h
    exact ⟨_, kitx_ownOk hat, inst_of led h1 h2, by simp⟩
  | clo h => cases ht
  | intz => simp only [tyD, Option.some.injEq] at ht; subst ht; exact ⟨_, kitx_int, trivial, by simp⟩
  | strz => simp only [tyD, Option.some.injEq] at ht; subst ht; exact ⟨_, kitx_str, trivial, by simp⟩
  | inst => cases ht
  | ins => cases ht
  | any => cases ht

theorem IsAll.vals : ∀ {vs ts : List Value}, IsAll hk L vs (ts.map .val) → vs = ts
  | [], [], _ => rfl
  | [], _ :: _, h => nomatch h
  | _ :: _, [], h => nomatch h
  | v :: vs, t :: ts, h => by
    cases h with
    | cons h1 h2 => cases h1; rw [IsAll.vals h2]
theorem IsAll.two {vs : List Value} {a b : PD} (h : IsAll hk L vs [a, b]) : ∃ u v, vs = [u, v] ∧ Is hk L u a ∧ Is hk L v b := by
  cases h with | cons h1 h2 => cases h2 with | cons h2 h3 => cases h3; exact ⟨_, _, rfl, h1, h2⟩
theorem IsAll.one1 {vs : List Value} {a : PD} (h : IsAll hk L vs [a]) : ∃ u, vs = [u] ∧ Is hk L u a := by
  cases h with | cons h1 h2 => cases h2; exact ⟨_, rfl, h1⟩
theorem IsAll.none0 {vs : List Value} (h : IsAll hk L vs []) : vs = [] := by cases h; rfl
theorem kvs_nil {kvs : List (Str × Value)} (h : kvs.map (·.1) = ([] : List (Str × PD)).map (·.1)) : kvs = [] := by simpa using h

structure KOk (K : Frag) (H : Heap) : Prop where
  at_ : K.In H
  solid : solidK K = true
  made : ownOk K madeC = true
  kind : ownOk K kindC = true
  attr : ownOk K attrC = true
theorem KOk.in (X : KOk K H) (inv : Inv H s.heap) : K.In s.heap := KIn.at X.at_ X.solid inv
theorem FN.isi1 {d : PD} {t c : Value} {b : Bool} (X : KOk K H) (ht : tyD d = some t) (e : kitOne K t c = some b) : FN prog w hk H n (.val (.builtin "isinstance")) [d, .val c] [] (.val (.bool b)) := fun A s L fv vs kvs ok inv led iv i1 i2 i3 => by
  cases iv
  obtain rfl := kvs_nil i3
  obtain ⟨u, v, rfl, iu, iv⟩ := i1.two
  cases iv
  obtain ⟨P, Z, p, hx⟩ := Is.kitx X.made X.kind X.attr led iu ht
  exact kia_one Z (X.in inv) p e hx fun tk => Pure.post (.toks inv tk) (.val _)
theorem FN.isiN {d : PD} {t : Value} {cs : List Value} {b : Bool} (X : KOk K H) (ht : tyD d = some t) (e : kitAny K t cs = some b) : FN prog w hk H n (.val (.builtin "isinstance")) [d, .tup (cs.map .val)] [] (.val (.bool b)) := fun A s L fv vs kvs ok inv led iv i1 i2 i3 => by
  cases iv
  obtain rfl := kvs_nil i3
  obtain ⟨u, v, rfl, iu, iv⟩ := i1.two
  obtain ⟨P, Z, p, hx⟩ := Is.kitx X.made X.kind X.attr led iu ht
  cases iv with
  | @tup tp o vs nn _ h1 h2 h3 h4 =>
    have e1 := h4.vals
    obtain ⟨c, dd, dt, sl⟩ := o
    dsimp only at h2 h3
    subst h2; subst h3
    refine kia_tup (its := cs) Z (X.in inv) p (by rw [← e1]; exact (led _ _ h1).1) e hx fun tk => Pure.post (.toks inv tk) (.val _)

/-- what an attribute gives -/
def AT (prog : Program) (w : World) (hk : PD → Int) (H : Heap) (d : PD) (x : Str) (r : PD) : Prop :=
  ∀ (A : Around) (s : Shared) (L : Led) (v : Value), A.handled = none → Inv H s.heap → Holds H L s.heap → Is hk L v d → wpAny (model prog w) A (getAttr v x true) (Post hk H L s r) (fun _ _ => False) s
theorem EV.attr {y x : Str} {np pos : Pos} {d r : PD} (h : EV prog w hk H n F look (.Name y np) d) (a : AT prog w hk H d x r) : EV prog w hk H n F look (.Attribute (.Name y np) x pos) r := fun A s L env ok p =>
  Attribute_name (h.use ok p fun v s₁ q i p₁ => wpAny_mono (a A s₁ _ v ok.handled p₁.inv p₁.led i) (fun _ _ e => Post.step q e) fun _ _ f => f.elim)

/-- an own object's own attribute, by its table -/
theorem AT.get {x C dx : Addr} {es : List DictEntry} {nn : Nat} {name : Str} {v : Value} {a : Option Value} {r : PD} {Q : Value → Shared → Prop} {E : Value → Shared → Prop} (X : KOk K H) (hg : plainGet K C name = true) (hh : hasDictIn K C = true) (ha : findIn K (.ref C) name = some a) (hn : noGet K a = true)
    (inv : Inv H s.heap) (led : Holds H L s.heap) (h1 : L x (instObj C dx)) (h2 : L dx (dictOf es nn)) (hl : getL name es = some (some v)) (hv : handedIn v = true) (k : Q v { s with toks := s.toks + 1 }) : wpAny (model prog w) A (getAttr (.ref x) name true) Q E s :=
  get_value (X.in inv) (inst_of led h1 h2) (plainGet_of hg).1 (findObj_own hh ha hn hl) hv k
theorem AT.objKind {k : Addr} {p q : PD} {a : Option Value} (X : KOk K H) (hg : plainGet K madeC "kind" = true) (hh : hasDictIn K madeC = true) (ha : findIn K (.ref madeC) "kind" = some a) (hn : noGet K a = true) : AT prog w hk H (.obj k p q) "kind" (.kind k) := fun A s L v hA inv led i => by
  cases i with
  | obj h1 h2 h3 h4 => exact AT.get (r := .kind k) X hg hh ha hn inv led h1 h2 rfl rfl (Pure.post (.toks inv _) (.kind h4))
theorem AT.objHeld {k : Addr} {p q : PD} {a : Option Value} (X : KOk K H) (hg : plainGet K madeC "held" = true) (hh : hasDictIn K madeC = true) (ha : findIn K (.ref madeC) "held" = some a) (hn : noGet K a = true) : AT prog w hk H (.obj k p q) "held" (.dict [(.str (Str.ofString "p"), p), (.str (Str.ofString "q"), q)]) := fun A s L v hA inv led i => by
  cases i with
  | obj h1 h2 h3 h4 => exact AT.get (r := .kind k) X hg hh ha hn inv led h1 h2 rfl rfl (Pure.post (.toks inv _) h3)
theorem AT.kindAttrs {k : Addr} {a : Option Value} (X : KOk K H) (hg : plainGet K kindC "attrs" = true) (hh : hasDictIn K kindC = true) (ha : findIn K (.ref kindC) "attrs" = some a) (hn : noGet K a = true) : AT prog w hk H (.kind k) "attrs" (.tup [.attr "p", .attr "q"]) := fun A s L v hA inv led i => by
  cases i with
  | kind h =>
    obtain ⟨kd, es, n, ma, mo, mn, aa, ao, an, ea, eo, en, a1, a2, a3, a4, h1, h2, ⟨m1, m2, m3⟩, ⟨b1, b2, b3, b4⟩, ⟨c1, c2, c3⟩, e, x1, x2, x3, x4⟩ := h
    exact AT.get (r := .kind k) X hg hh ha hn inv led h1 h2 b1 rfl (Pure.post (.toks inv _) (.tup b2 b3 b4 (.cons (.attr x1) (.cons (.attr x2) .nil))))
theorem AT.kindMro {k : Addr} {a : Option Value} (X : KOk K H) (hg : plainGet K kindC "mro" = true) (hh : hasDictIn K kindC = true) (ha : findIn K (.ref kindC) "mro" = some a) (hn : noGet K a = true) : AT prog w hk H (.kind k) "mro" (.list [.kind k]) := fun A s L v hA inv led i => by
  cases i with
  | kind h =>
    have h' := h
    obtain ⟨kd, es, n, ma, mo, mn, aa, ao, an, ea, eo, en, a1, a2, a3, a4, h1, h2, ⟨m1, m2, m3, m4⟩, ⟨b1, b2, b3, b4⟩, ⟨c1, c2, c3⟩, e, x1, x2, x3, x4⟩ := h
    exact AT.get (r := .kind k) X hg hh ha hn inv led h1 h2 m1 rfl (Pure.post (.toks inv _) (.list m2 m3 m4 (.cons (.kind h') .nil)))
theorem AT.kindEq {k : Addr} {a : Option Value} (X : KOk K H) (hg : plainGet K kindC "eq_attrs" = true) (hh : hasDictIn K kindC = true) (ha : findIn K (.ref kindC) "eq_attrs" = some a) (hn : noGet K a = true) : AT prog w hk H (.kind k) "eq_attrs" (.list [.attr "p", .attr "q"]) := fun A s L v hA inv led i => by
  cases i with
  | kind h =>
    obtain ⟨kd, es, n, ma, mo, mn, aa, ao, an, ea, eo, en, a1, a2, a3, a4, h1, h2, ⟨m1, m2, m3, m4⟩, ⟨b1, b2, b3, b4⟩, ⟨c1, c2, c3, c4⟩, e, x1, x2, x3, x4⟩ := h
    exact AT.get (r := .kind k) X hg hh ha hn inv led h1 h2 c1 rfl (Pure.post (.toks inv _) (.list c2 c3 c4 (.cons (.attr x3) (.cons (.attr x4) .nil))))
theorem AT.attrName {y : Str} {a : Option Value} (X : KOk K H) (hg : plainGet K attrC "name" = true) (hh : hasDictIn K attrC = true) (ha : findIn K (.ref attrC) "name" = some a) (hn : noGet K a = true) : AT prog w hk H (.attr y) "name" (.str y) := fun A s L v hA inv led i => by
  cases i with
  | attr h =>
    obtain ⟨ad, es, n, t1, t2, h1, h2, e1, e2, e3, r⟩ := h
    exact AT.get (r := .str y) X hg hh ha hn inv led h1 h2 e1 rfl (Pure.post (.toks inv _) (.str _ _))
theorem AT.attrEqKey {y : Str} {a : Option Value} (X : KOk K H) (hg : plainGet K attrC "eq_key" = true) (hh : hasDictIn K attrC = true) (ha : findIn K (.ref attrC) "eq_key" = some a) (hn : noGet K a = true) : AT prog w hk H (.attr y) "eq_key" (.val .none) := fun A s L v hA inv led i => by
  cases i with
  | attr h =>
    obtain ⟨ad, es, n, t1, t2, h1, h2, e1, e2, e3, r⟩ := h
    exact AT.get (r := .str y) X hg hh ha hn inv led h1 h2 e3 rfl (Pure.post (.toks inv _) (.val _))
end
end Mine
end

section -- B13
open PySem PySem.Calls PySem.W PyProof.Rows
set_option maxRecDepth 100000
set_option linter.unusedVariables false
namespace Mine
def fdOf (K : Frag) (a : Addr) : FuncData := match K.lookup a with | some o => (match o.data with | .func fd => fd | _ => default) | none => default
def bodyOf (fd : FuncData) : List Stmt := match fd.body with | .stmts b => b | _ => []
def codeOf (fd : FuncData) : Addr := match fd.code with | .ref c => c | _ => 0
def codeOk (K : Frag) (fd : FuncData) : Bool := match K.lookup (codeOf fd) with
  | some ⟨.type _, _, .fields vs, _⟩ => (match (vs[1]? : Option Value) with
    | some (.str q _) => q == fd.qualname
    | _ => false)
  | _ => false
def fdPlain (fd : FuncData) : Bool := (match fd.body with
    | .stmts _ => true
    | _ => false) && (fd.code == .ref (codeOf fd)) && fd.closure.isEmpty && !fd.scope.isCoroutine && !fd.scope.isGenerator && (fd.scope.kind == .function) && (fd.scope.names.all fun x => !(x.2 == .free)) && (fd.globals == mainGlobals) && (fd.builtins == builtinsNs)
/-- a def of K's, plain enough -/
def defOk (K : Frag) (a : Addr) : Bool := match K.lookup a with
  | some ⟨.type _, _, .func fd, _⟩ => codeOk K fd && fdPlain fd
  | _ => false
theorem DefAt.ofK {K : Frag} {H : Heap} {a : Addr} (X : K.In H) (h : defOk K a = true) : DefAt H a (fdOf K a) (bodyOf (fdOf K a)) (codeOf (fdOf K a)) := by
  unfold defOk at h
  split at h
  · rename_i t dd fd sl ho
    have e : fdOf K a = fd := by unfold fdOf; rw [ho]
    rw [e]
    rw [Bool.and_eq_true] at h
    obtain ⟨h0, h⟩ := h
    unfold fdPlain at h
    simp only [Bool.and_eq_true] at h
    obtain ⟨⟨⟨⟨⟨⟨⟨⟨h1, h2⟩, h3⟩, h4⟩, h5⟩, h6⟩, h7⟩, h8⟩, h9⟩ := h
    unfold codeOk at h0
    split at h0
    · rename_i tc dc vs slc hoc
      split at h0
      · rename_i q tq hq
        refine ⟨⟨_, X _ _ ho, by simp, rfl⟩, ⟨_, vs, tq, beq_iff_eq.mp h2, X _ _ hoc, by simp, rfl, ?_⟩, by simpa using h3, ?_, by simpa using h4, by simpa using h5, by simpa using h6, fun x hx => ?_, by simpa using h8, by simpa using h9⟩
        · rw [hq, beq_iff_eq.mp h0]
        · unfold bodyOf; split at h1
          · rename_i b hb; rw [hb]
          · cases h1
        · have := List.all_eq_true.mp h7 _ (PySem.mem_of_lookup hx)
          simp at this
      · cases h0
    · cases h0
  · cases h

def nsK (K : Frag) : Array DictEntry := match K.lookup mainGlobals with | some o => (match o.data with | .dict es _ => es | _ => #[]) | none => #[]
def isStrV : Value → Bool
  | .str _ _ => true
  | _ => false
def nsOk (K : Frag) : Bool := match K.lookup mainGlobals with
  | some o => (match o.data with
    | .dict es _ => es.all fun e => isStrV e.key
    | _ => false)
  | none => false
def mgK (K : Frag) (x : Str) : Option Value := nsFind (nsK K) x
/-- what the top lays -/
structure Env0 (K : Frag) (H : Heap) : Prop extends KOk K H where
  ns : nsOk K = true
  blt : ∃ mb, H.Ns builtinsNs mb ∧ ∀ x : Str, x ≠ "__name__" → mb x = bootBuiltins x
  bmain : ∃ bm ob, mgK K "__builtins__" = some (.ref bm) ∧ bm ≠ builtinsNs ∧ H.get? bm = some ob ∧ ob.cls = .type "module" ∧ ob.dict = some builtinsNs ∧ ob.data = .plain
theorem Env0.glob {K : Frag} {H : Heap} (X : Env0 K H) : H.Ns mainGlobals (mgK K) := by
  have h := X.ns
  unfold nsOk at h
  split at h
  · rename_i o ho
    split at h
    · rename_i es ep hd
      refine ⟨o, es, ep, X.at_ _ _ ho, hd, fun e he => ?_, fun name => ?_⟩
      · obtain ⟨i, hi, rfl⟩ := Array.mem_iff_getElem.mp he
        have := Array.all_eq_true.mp h i hi
        unfold isStrV at this
        split at this
        · rename_i q t hq; exact ⟨q, t, hq⟩
        · cases this
      · unfold mgK nsK; rw [ho]; dsimp only; rw [hd]
    · cases h
  · cases h
section
variable {prog : Program} {w : World} {hk : PD → Int} {H : Heap} {n : Nat} {F : Fm} {wc : List Str} {look : Look} {own own' : Own} {A : Around} {B : Bs} {s s' : Shared} {L L' L₂ Lw : Led} {env : Env} {K : Frag}
/-- a global name -/
theorem EV.g {x : Str} {pos : Pos} {v : Value} (X : Env0 K H) (hv : mgK K x = some v := by rfl) (hx : (F.sc.names.lookup x == some .globalImplicit) = true := by rfl) (hd : (x == ("__debug__" : Str)) = false := by rfl) : EV prog w hk H n F look (.Name x pos) (.val v) := fun A s L env _ p => by
  refine Name_function_global (by rw [p.scope]; exact p.kind) ?_ (loadGlobal_global (mg := mgK K) ?_ hv (Pure.post (.refl p.inv) (.val _))) hd
  · have := beq_iff_eq.mp hx
    unfold Env.kindOf; rw [p.scope]; exact this
  · rw [p.glob]; exact Ns.keep X.glob p.inv.kept
theorem EV.b {x : Str} {pos : Pos} {v : Value} (X : Env0 K H) (hm : mgK K x = .none := by rfl) (hb : bootBuiltins x = some v := by rfl) (hx : (F.sc.names.lookup x == some .globalImplicit) = true := by rfl) (hn : (x == ("__name__" : Str)) = false := by rfl) (hd : (x == ("__debug__" : Str)) = false := by rfl) : EV prog w hk H n F look (.Name x pos) (.val v) := fun A s L env _ p => by
  obtain ⟨mb, hmb, hall⟩ := X.blt
  refine Name_function_global (by rw [p.scope]; exact p.kind) ?_ (loadGlobal_builtin (mg := mgK K) (mb := mb) ?_ hm ?_ ((hall x (by simpa using hn)).trans hb) (Pure.post (.refl p.inv) (.val _))) hd
  · have := beq_iff_eq.mp hx
    unfold Env.kindOf; rw [p.scope]; exact this
  · rw [p.glob]; exact Ns.keep X.glob p.inv.kept
  · rw [p.blt]; exact Ns.keep hmb p.inv.kept

theorem BINDS.zero {fd : FuncData} (h : bindArgs fd ⟨[], []⟩ = pure []) : BINDS prog w hk H fd [] [] [] [] := fun A s L vs kvs inv led i1 i2 i3 => by
  obtain rfl := kvs_nil i3
  obtain rfl := i1.none0
  rw [h]; exact wpAny_pure ⟨.refl inv, rfl, .nil⟩
/-- positions alone -/
theorem BINDS.pos {fd : FuncData} {ps : List PD} {names : List Str} (h : ∀ vs : List Value, vs.length = ps.length → bindArgs fd ⟨vs, []⟩ = pure (names.zip vs)) (hl : names.length = ps.length := by rfl) : BINDS prog w hk H fd ps [] names ps := fun A s L vs kvs inv led i1 i2 i3 => by
  obtain rfl := kvs_nil i3
  have e := i1.length
  rw [h vs e]
  refine wpAny_pure ⟨.refl inv, List.map_fst_zip (by omega), ?_⟩
  rw [List.map_snd_zip (by omega)]
  exact i1.mono fun _ _ => .inl
theorem len1 {P : List Value → Prop} {k : Nat} (hk : k = 1) (h : ∀ a, P [a]) : ∀ vs : List Value, vs.length = k → P vs := fun vs e => by
  subst hk; match vs, e with | [a], _ => exact h a
theorem len2 {P : List Value → Prop} {k : Nat} (hk : k = 2) (h : ∀ a b, P [a, b]) : ∀ vs : List Value, vs.length = k → P vs := fun vs e => by
  subst hk; match vs, e with | [a, b], _ => exact h a b
theorem len3 {P : List Value → Prop} {k : Nat} (hk : k = 3) (h : ∀ a b c, P [a, b, c]) : ∀ vs : List Value, vs.length = k → P vs := fun vs e => by
  subst hk; match vs, e with | [a, b, c], _ => exact h a b c
theorem len4 {P : List Value → Prop} {k : Nat} (hk : k = 4) (h : ∀ a b c d, P [a, b, c, d]) : ∀ vs : List Value, vs.length = k → P vs := fun vs e => by
  subst hk; match vs, e with | [a, b, c, d], _ => exact h a b c d
/-- the goal of a def's body: it returns d -/
abbrev Rets (d : PD) : Goal := ⟨fun _ _ => False, fun _ _ => False, fun d' _ => d' = d⟩
theorem FN.defK {q : Option Str} {a : Addr} {ps : List PD} {ks : List (Str × PD)} {names : List Str} {ds : List PD} {d : PD} (wc : List Str) (X : Env0 K H) (hok : defOk K a = true) (hb : BINDS prog w hk H (fdOf K a) ps ks names ds)
    (hn : names.Nodup) (hkind : (names.all fun x => (fdOf K a).scope.names.lookup x == some .local || (fdOf K a).scope.names.lookup x == some .cell) = true)
    (h : EX prog w hk H n ⟨(fdOf K a).scope, some (codeOf (fdOf K a)), q⟩ wc (fun x => (names.zip ds).lookup x) [] (bodyOf (fdOf K a)) (Rets d)) (hq : q = none ∨ q = some ((fdOf K a).qualname ++ ".<locals>.") := by exact .inl rfl) : FN prog w hk H (n + 1) (.val (.ref a)) ps ks d :=
  FN.def (DefAt.ofK X.at_ hok) hb hn (fun x hx => by have := List.all_eq_true.mp hkind x hx; simpa using this) h hq
end
end Mine
end

section -- B14
open PySem PySem.Calls PySem.W PyProof.Rows
set_option maxRecDepth 100000
set_option linter.unusedVariables false
namespace Mine
section
variable {prog : Program} {w : World} {A : Around} {E : Value → Shared → Prop} {h : Heap} {g : Array GenState} {d : Drawn} {t : Nat} {os : OsState}
/-- thing.__class__ of a thing of a built-in class -/
theorem cls2_by {v : Value} {T id : String} {tk : Tok} {Q : Value → Shared → Prop} (hT : (⟨h, g, d, t, os⟩ : Shared).TypeIs v T) (slot : Slot T "__getattribute__" id)
    (hc : ∀ {R : Result → Shared → Prop}, R (.ok (.ret (.type T))) ⟨h, g, d, t, os⟩ → codeAny (model prog w) A (.call (.builtin id) ⟨[v, .str "__class__" tk], []⟩) R ⟨h, g, d, t, os⟩) (hq : Q (.type T) ⟨h, g, d, t, os⟩) :
    wpAny (model prog w) A (getAttrBy v (.str "__class__" tk) true true) Q E ⟨h, g, d, t, os⟩ := by
  unfold getAttrBy
  refine wpAny_holding (wpAny_bind (wpAny_typeOf hT (wpAny_bind (wpAny_of_eq slot.lookup ?_))))
  show wpAny _ _ (getAttrByItsOwn v _ (.type T) (.builtin id) true true) _ _ _
  unfold getAttrByItsOwn
  refine wpAny_bind (wpAny_pure (wpAny_bind (wpAny_attempt (wpAny_holding ?_))))
  show wpAny _ _ (boundAndCalled (.builtin id) v _) _ _ _
  unfold boundAndCalled
  refine wpAny_bind (wpAny_of_eq (slot.bind v) ?_)
  exact wpAny_call (hc (wpAny_pure hq))
theorem cls2_at {v : Value} {T id : String} {Q : Value → Shared → Prop} (hT : (⟨h, g, d, t + 1, os⟩ : Shared).TypeIs v T) (slot : Slot T "__getattribute__" id)
    (hc : ∀ {tk : Tok} {R : Result → Shared → Prop}, R (.ok (.ret (.type T))) ⟨h, g, d, t + 1, os⟩ → codeAny (model prog w) A (.call (.builtin id) ⟨[v, .str "__class__" tk], []⟩) R ⟨h, g, d, t + 1, os⟩) (hq : Q (.type T) ⟨h, g, d, t + 1, os⟩) :
    wpAny (model prog w) A (getAttr v "__class__" true) Q E ⟨h, g, d, t, os⟩ := by
  unfold getAttr
  exact wpAny_bind (wpAny_mkText (cls2_by hT slot hc hq))
theorem cls2_none {Q : Value → Shared → Prop} (hq : Q (.type "NoneType") ⟨h, g, d, t + 1, os⟩) : wpAny (model prog w) A (getAttr .none "__class__" true) Q E ⟨h, g, d, t, os⟩ :=
  cls2_at (T := "NoneType") rfl F.slot_NoneType_getattribute (fun r => class_call_none r) hq
theorem cls2_int {n : Int} {u : Tok} {Q : Value → Shared → Prop} (hq : Q (.type "int") ⟨h, g, d, t + 1, os⟩) : wpAny (model prog w) A (getAttr (.int n u) "__class__" true) Q E ⟨h, g, d, t, os⟩ :=
  cls2_at (T := "int") rfl F.slot_int_getattribute (fun r => class_call_int r) hq
theorem cls2_str {x : Str} {u : Tok} {Q : Value → Shared → Prop} (hq : Q (.type "str") ⟨h, g, d, t + 1, os⟩) : wpAny (model prog w) A (getAttr (.str x u) "__class__" true) Q E ⟨h, g, d, t, os⟩ :=
  cls2_at (T := "str") rfl F.slot_str_getattribute (fun r => class_call_str r) hq
theorem cls2_bool {x : Bool} {Q : Value → Shared → Prop} (hq : Q (.type "bool") ⟨h, g, d, t + 1, os⟩) : wpAny (model prog w) A (getAttr (.bool x) "__class__" true) Q E ⟨h, g, d, t, os⟩ :=
  cls2_at (T := "bool") rfl F.slot_bool_getattribute (fun r => class_call_bool r) hq
theorem cls2_list {a : Addr} {o : Obj} {Q : Value → Shared → Prop} (hx : h.get? a = some o) (hc : o.cls = .type "list") (hq : Q (.type "list") ⟨h, g, d, t + 1, os⟩) : wpAny (model prog w) A (getAttr (.ref a) "__class__" true) Q E ⟨h, g, d, t, os⟩ :=
  cls2_at (T := "list") ⟨_, hx, hc⟩ F.slot_list_getattribute (fun r => class_call_list hx hc r) hq
theorem cls2_tuple {a : Addr} {o : Obj} {Q : Value → Shared → Prop} (hx : h.get? a = some o) (hc : o.cls = .type "tuple") (hq : Q (.type "tuple") ⟨h, g, d, t + 1, os⟩) : wpAny (model prog w) A (getAttr (.ref a) "__class__" true) Q E ⟨h, g, d, t, os⟩ :=
  cls2_at (T := "tuple") ⟨_, hx, hc⟩ F.slot_tuple_getattribute (fun r => class_call_tuple hx hc r) hq
theorem cls2_dict {a : Addr} {o : Obj} {Q : Value → Shared → Prop} (hx : h.get? a = some o) (hc : o.cls = .type "dict") (hq : Q (.type "dict") ⟨h, g, d, t + 1, os⟩) : wpAny (model prog w) A (getAttr (.ref a) "__class__" true) Q E ⟨h, g, d, t, os⟩ :=
  cls2_at (T := "dict") ⟨_, hx, hc⟩ F.slot_dict_getattribute (fun r => class_call_dict hx hc r) hq
end
end Mine
end

section -- B15
open PySem PySem.Calls PySem.W PyProof.Rows PySem.Builtin PySem.Builtin.ObjectAttr PySem.Builtin.Getset_descriptor
set_option maxRecDepth 100000
set_option linter.unusedVariables false
namespace Mine
section
variable {prog : Program} {w : World} {A : Around} {E : Value → Shared → Prop} {s : Shared} {R : Result → Shared → Prop} {K : Frag} {T : String}
theorem sub_type_object : isSubtype (.type "type") (.type "object") = pure true := by rw [isSubtype_type]; kernel_rfl
theorem dga_type (d tp : Value) (T : String) : descrGetArgs ⟨[d, .type T, tp], []⟩ = pure (d, some (.type T), given tp) := by kernel_rfl
theorem class_getT {tp : Value} (ht : typeOf (.type T) = pure (.type "type")) (h : R (.ok (.ret (.type "type"))) s) : codeAny (model prog w) A (.call (.builtin "getset_descriptor.__get__") ⟨[.builtin "object.__class__", .type T, tp], []⟩) R s := by
  obtain ⟨hh, g, dr, t, os⟩ := s
  have L0 : Looks (model prog w) hh (typeOf (.type T)) (.type "type") := Looks.of_pure ht
  have L1 : Looks (model prog w) hh (isSubtype (.type "type") (.type "object")) true := Looks.of_pure sub_type_object
  refine codeAny_call_builtin KF.slot_gs.plain KF.entry_gs (KF.slot_gs.check _ _ _ _ _ _ _ _ KF.type_class (KF.args_gs _ _ _) ?_)
  unfold Builtin.«getset_descriptor.__get__» descrGet
  rw [dga_type]
  refine wpAny_bind (wpAny_pure ?_)
  unfold descrGetter descrCheckInstance descrNameAndClass isInstance
  simp only [KF.owner_class]
  repeat lk
  refine ⟨Code.quiet_builtin _ (by decide +kernel), codeAny_builtin KF.entry_class ?_⟩
  unfold Builtin.«object.__class__» shownTypeOf
  repeat lk
  exact h
theorem cls_openT {c mc : Value} {name : Str} {r : CFound} {Q : Option Value → Shared → Prop} {hook : Option Value} (X : K.In s.heap) (ho : Looks (model prog w) s.heap (opaqueClassAbove c) none) (ht : Looks (model prog w) s.heap (typeOf c) mc)
    (hga : findIn K mc "__getattribute__" = some (some (.builtin "type.__getattribute__"))) (hb : Looks (model prog w) s.heap (hookBefore mc) hook) (hi : subIn K mc (.type "type") = some true) (e : findCls K c mc name = some r)
    (h : wpAny (model prog w) A.in1 r.run (fun fin s' => match fin with | .done (.ret v) => wpAny (model prog w) A (handedOut v) (fun v s'' => Q (some v) s'') (fun _ _ => False) s' | _ => False) (fun _ _ => False) { s with toks := s.toks + 1 }) :
    wpAny (model prog w) A (getAttr? c name) Q E s := by
  unfold getAttr? getAttrBy? getAttrBy
  refine wpAny_bind (wpAny_mkText (wpAny_bind (wpAny_attempt (wpAny_holding (wpAny_bind (ht _ _ _ _ (fun _ _ e => e) (wpAny_bind (looks_findIn X hga _ _ _ _ (fun _ _ e => e) ?_))))))))
  dsimp only
  rw [show (onTheHeap mc && Value.builtin "type.__getattribute__" == Value.builtin "object.__getattribute__") = false from by rw [show (Value.builtin "type.__getattribute__" == Value.builtin "object.__getattribute__") = false from by decide +kernel, Bool.and_false], if_neg (by decide)]
  refine wpAny_bind (hb _ _ _ _ (fun _ _ e => e) (wpAny_bind (wpAny_attempt (wpAny_holding ?_))))
  unfold callGetattribute
  rw [show (false && onTheHeap (Value.builtin "type.__getattribute__")) = false from rfl, if_neg (by decide)]
  unfold boundAndCalled
  rw [KF.slot_tga.bind]
  refine wpAny_bind (wpAny_pure ?_)
  show wpAny _ _ (call (.builtin "type.__getattribute__") [c, .str name s.toks]) _ _ _
  refine wpAny_call ?_
  refine codeAny_call_builtin KF.slot_tga.plain KF.entry_tga ?_
  refine @check_slot (model prog w) _ _ { s with toks := s.toks + 1 } "type.__getattribute__" "type" "__getattribute__" c [.str name s.toks] [] _ (by decide +kernel) (by decide +kernel) (ht.andThen (looks_subIn X hi)) (KF.args_tga c (.str name s.toks)) ?_
  refine tga_run (s := { s with toks := s.toks + 1 }) X ho ht e (wpAny_mono h (fun fin s' z => ?_) fun _ _ z => z.elim)
  rcases fin with (_ | _ | _ | _) | _ <;> first | exact wpAny_mono z (fun v s'' hv => wpAny_pure hv) (fun _ _ z => z.elim) | exact z.elim
theorem type_class (X : K.In s.heap) (ht : typeOf (.type T) = pure (.type "type")) (hs : Manifest.isStub T = false) (e : findCls K (.type T) (.type "type") "__class__" = some (.get (.builtin "getset_descriptor.__get__") (.builtin "object.__class__") (.type T) (.type "type")))
    {Q : Option Value → Shared → Prop} (h : Q (some (.type "type")) { s with toks := s.toks + 1 }) : wpAny (model prog w) A (getAttr? (.type T) "__class__") Q E s := by
  have hstub : opaqueClassAbove (.type T) = pure none := by unfold opaqueClassAbove; dsimp only; rw [hs]; rfl
  have L0 : Looks (model prog w) s.heap (typeOf (.type T)) (.type "type") := Looks.of_pure ht
  have hg : findIn K (.type "type") "__getattribute__" = some (some (.builtin "type.__getattribute__")) := type_tga
  have LO : Looks (model prog w) s.heap (opaqueClassAbove (.type T)) none := Looks.of_pure hstub
  refine cls_openT X LO L0 hg (looks_hook X (r := none) (by rfl)) (by show subIn K _ _ = _; rfl) e ?_
  show wpAny _ _ (do ret (← holding [.builtin "object.__class__"] (call (.builtin "getset_descriptor.__get__") [.builtin "object.__class__", .type T, .type "type"]))) _ _ _
  refine wpAny_bind (wpAny_holding (wpAny_call (class_getT ht ?_)))
  exact wpAny_pure (wpAny_pure h)
theorem kitx_type (ht : typeOf (.type T) = pure (.type "type")) (hs : Manifest.isStub T = false) (e : findCls K (.type T) (.type "type") "__class__" = some (.get (.builtin "getset_descriptor.__get__") (.builtin "object.__class__") (.type T) (.type "type"))) :
    KitX K (.type T) (.type "type") (fun _ => True) where
  ty := fun _ _ _ _ => Looks.of_pure ht
  it := fun _ _ _ _ => Looks.of_pure rfl
  ne := fun _ _ _ _ _ _ _ _ => Bool.eq_false_iff.mpr fun q => by cases beq_iff_eq.mp q
  ca := fun X _ k => type_class X ht hs e k
variable {hk : PD → Int} {H : Heap} {n : Nat}
theorem FN.isiT {c : Value} {b : Bool} (X : KOk K H) (hm : kitMeta T = true) (hs : Manifest.isStub T = false) (e1 : findCls K (.type T) (.type "type") "__class__" = some (.get (.builtin "getset_descriptor.__get__") (.builtin "object.__class__") (.type T) (.type "type"))) (e : kitOne K (.type "type") c = some b) : FN prog w hk H n (.val (.builtin "isinstance")) [.val (.type T), .val c] [] (.val (.bool b)) := fun A s L fv vs kvs ok inv led iv i1 i2 i3 => by
  cases iv
  obtain rfl := kvs_nil i3
  obtain ⟨u, v, rfl, iu, iv⟩ := i1.two
  cases iu; cases iv
  exact kia_one (kitx_type (kitMeta_of hm) hs e1) (X.in inv) trivial e (by simp) fun tk => Pure.post (.toks inv tk) (.val _)

theorem AT.cls {d : PD} {T : String} (h : match d, T with
    | .int _, "int" => True | .str _, "str" => True | .list _, "list" => True | .tup _, "tuple" => True | .dict _, "dict" => True | .val .none, "NoneType" => True | _, _ => False) : AT prog w hk H d "__class__" (.val (.type T)) := fun A s L v hA inv led i => by
  obtain ⟨hh, g, dr, t, os⟩ := s
  split at h
  · cases i; exact cls2_int (Pure.post (.toks inv _) (.val _))
  · cases i; exact cls2_str (Pure.post (.toks inv _) (.val _))
  · cases i with
    | list h1 h2 h3 h4 => exact cls2_list (led _ _ h1).1 h2 (Pure.post (.toks inv _) (.val _))
  · cases i with
    | tup h1 h2 h3 h4 => exact cls2_tuple (led _ _ h1).1 h2 (Pure.post (.toks inv _) (.val _))
  · cases i with
    | dict h1 h2 h3 h4 => exact cls2_dict (led _ _ h1).1 h2.1 (Pure.post (.toks inv _) (.val _))
  · cases i; exact cls2_none (Pure.post (.toks inv _) (.val _))
  · exact h.elim
end
end Mine
end

section -- B16
open PySem PySem.Calls PySem.W PyProof.Rows PySem.SeqAt PySem.MeetsSeq
set_option maxRecDepth 100000
set_option linter.unusedVariables false
namespace Mine
section
variable {prog : Program} {w : World} {A : Around} {E : Value → Shared → Prop} {s : Shared}
/-- a value's equality says nothing to a table -/
def Quiet8 (A : Around) (s : Shared) (v : Value) : Prop := ∀ (prog : Program) (w : World) (E : Value → Shared → Prop) (Q : Bool → Shared → Prop), Q true s → wpAny (model prog w) A (eqIsQuiet 8 v) Q E s
theorem mayTell {key : Value} {stored : List Value} {Q : Bool → Shared → Prop} (hkey : Quiet8 A s key) (hst : ∀ v ∈ stored, Quiet8 A s v) (h : Q false s) : wpAny (model prog w) A (tableMayTell key stored) Q E s := by
  unfold tableMayTell
  split
  · exact wpAny_pure h
  · refine wpAny_bind (hkey _ _ _ _ ?_)
    simp only [Bool.not_true, Bool.false_eq_true, if_false]
    refine wpAny_bind ?_
    refine wpAny_forIn_list _ (fun rest r s' => s' = s ∧ r = (none, ()) ∧ ∀ v ∈ rest, Quiet8 A s v) _ ?_ ?_ _ _ ⟨rfl, rfl, hst⟩
    · rintro x rest r s' ⟨rfl, rfl, hr⟩
      refine wpAny_bind (hr x List.mem_cons_self _ _ _ _ ?_)
      simp only [Bool.not_true, Bool.false_eq_true, if_false]
      exact wpAny_pure ⟨rfl, rfl, fun v hv => hr v (List.mem_cons_of_mem _ hv)⟩
    · rintro r s' ⟨rfl, rfl, _⟩
      exact wpAny_pure h

/-- the search for a key: where it stands, if it does -/
theorem find_core {d : Addr} {key : Value} {hh : Int} {o : Obj} {es : Array DictEntry} {ep : Nat} {j : Option Nat} {Q : Option Nat → Shared → Prop} (ho : s.heap.get? d = some o) (hd : o.data = .dict es ep)
    (heq : ∀ i e, es[i]? = some e → EqAt A s e.key key (decide (j = some i))) (hj : ∀ i, j = some i → ∃ e, es[i]? = some e ∧ e.hash = hh)
    (hq : Quiet8 A s key) (hqs : ∀ e ∈ es, Quiet8 A s e.key) (hr : ∀ a, key = .ref a → ∀ e ∈ es, e.key = key → e.hash = hh)
    (hs : ∀ x t, key = .str x t → (es.all fun e => isExactStrKey e.key) = true → es.findIdx? (fun e => e.key.isStr x) = j) (h : Q j s) : wpAny (model prog w) A (dictFind d key hh) Q E s := by
  have unique : ∀ i e, es[i]? = some e → j = some i → e.hash = hh := fun i e he hji => by
    obtain ⟨e', he', hh'⟩ := hj i hji
    rw [he] at he'; cases he'; exact hh'
  have old : wpAny (model prog w) A (dictWalkPlain d key hh es (placesWithHash es.size (fun i => es[i]?.map (·.hash)) hh)) Q E s := by
    refine wpAny_bind ?_
    refine wpAny_forIn_list _
      (fun rest b s' => s' = s ∧ b = (none, ()) ∧ ∃ i, rest = (List.range' i (es.size - i)).filter (fun i => (es[i]?.map (·.hash)) == some hh) ∧ i ≤ es.size ∧ ∀ k, j = some k → i ≤ k) _ ?_ ?_ _ _
      ⟨rfl, rfl, 0, by rw [placesWithHash, List.range_eq_range', Nat.sub_zero], Nat.zero_le _, fun _ _ => Nat.zero_le _⟩
    · rintro x rest b s' ⟨rfl, rfl, i, hr', hi, hno⟩
      obtain ⟨hix, hxn, hpx, hskip, hrest⟩ := filter_range'_cons _ _ _ _ _ hr'.symm
      have hlt : x < es.size := by omega
      have hxe : es[x]? = some es[x] := Array.getElem?_eq_getElem hlt
      have hge : ∀ k, j = some k → x ≤ k := fun k hk => by
        rcases Nat.lt_or_ge k x with hkx | hkx
        · have h1 := hskip k (hno k hk) hkx
          obtain ⟨e, he, hhe⟩ := hj k hk
          rw [he, Option.map_some, hhe] at h1
          simp at h1
        · exact hkx
      simp only [hxe]
      by_cases hxh : (es[x].hash == hh) = true
      · rw [if_pos hxh]
        refine wpAny_bind (wpAny_dictEpoch ho hd (wpAny_bind (heq x _ hxe _ _ _ _ (wpAny_bind (wpAny_dictEpoch ho hd ?_)))))
        show wpAny _ _ (if (ep != ep) = true then _ else _) _ E _
        rw [if_neg (by simp)]
        by_cases hjx : j = some x
        · rw [decide_eq_true hjx]
          rw [hjx] at h
          exact wpAny_bind (wpAny_rule (wpAny_pure (wpAny_pure h)))
        · rw [decide_eq_false hjx]
          exact wpAny_bind (wpAny_rule (wpAny_pure ⟨rfl, rfl, x + 1, by rw [hrest]; congr 2; omega, hlt, fun k hk => Nat.lt_of_le_of_ne (hge k hk) fun e => hjx (e ▸ hk)⟩))
      · rw [if_neg hxh]
        refine wpAny_pure ⟨rfl, rfl, x + 1, by rw [hrest]; congr 2; omega, hlt, fun k hk => Nat.lt_of_le_of_ne (hge k hk) fun e => ?_⟩
        subst e
        exact hxh (beq_iff_eq.mpr (unique _ _ hxe hk))
    · rintro b s' ⟨rfl, rfl, i, hr', hi, hno⟩
      have : j = none := by
        cases hjn : j with
        | none => rfl
        | some k =>
          obtain ⟨e, he, hhe⟩ := hj k hjn
          have hk : k < es.size := (Array.getElem?_eq_some_iff.mp he).1
          have h1 := List.filter_eq_nil_iff.mp hr'.symm k (List.mem_range'_1.mpr ⟨hno k hjn, by have := hno k hjn; omega⟩)
          rw [he, Option.map_some, hhe] at h1
          simp at h1
      rw [this] at h
      exact wpAny_pure h
  have rest : wpAny (model prog w) A (do
      let places := placesWithHash es.size (fun i => es[i]?.map (·.hash)) hh
      let stored := places.filterMap fun i => es[i]?.map (·.key)
      if (key :: stored).all carriedByValue then return ← dictWalkPlain d key hh es places
      if let .ref _ := key then
        if es.any fun e => e.key == key && e.hash != hh then unsupported "dict.find:a-stored-key-whose-hash-has-changed"
      let tells ← if stored == [key] then pure false else tableMayTell key stored
      if tells && stored.length ≥ 2 then unsupported "dict.find:order-among-keys-of-one-hash"
      let mut hit : Option Nat := none
      for i in places do
        if let some e := es[i]? then
          if e.hash == hh then
            let before ← dictEpoch d (keyPart key)
            let same ← eqBool e.key key
            if (← dictEpoch d (keyPart key)) != before then unsupported "dict.changed-during-lookup"
            if same then
              if hit.isSome then unsupported "dict.find:order-among-keys-of-one-hash"
              rule "dict.find.hit"
              if stored.length < 2 then return some i
              hit := some i
            else
              rule "dict.find.same-hash-other-key"
              if tells && !(0 ≤ hh && hh < 32) then unsupported "dict.find:asked-again-or-not-hangs-on-the-table"
      return hit) Q E s := by
    dsimp only
    by_cases hall : ((key :: (placesWithHash es.size (fun i => es[i]?.map (·.hash)) hh).filterMap fun i => es[i]?.map (·.key)).all carriedByValue) = true
    · rw [if_pos hall]
      exact old
    · rw [if_neg hall]
      have go : wpAny (model prog w) A (do
          let stored := (placesWithHash es.size (fun i => es[i]?.map (·.hash)) hh).filterMap fun i => es[i]?.map (·.key)
          let tells ← if stored == [key] then pure false else tableMayTell key stored
          if tells && stored.length ≥ 2 then unsupported "dict.find:order-among-keys-of-one-hash"
          let mut hit : Option Nat := none
          for i in placesWithHash es.size (fun i => es[i]?.map (·.hash)) hh do
            if let some e := es[i]? then
              if e.hash == hh then
                let before ← dictEpoch d (keyPart key)
                let same ← eqBool e.key key
                if (← dictEpoch d (keyPart key)) != before then unsupported "dict.changed-during-lookup"
                if same then
                  if hit.isSome then unsupported "dict.find:order-among-keys-of-one-hash"
                  rule "dict.find.hit"
                  if stored.length < 2 then return some i
                  hit := some i
                else
                  rule "dict.find.same-hash-other-key"
                  if tells && !(0 ≤ hh && hh < 32) then unsupported "dict.find:asked-again-or-not-hangs-on-the-table"
          return hit) Q E s := by
        dsimp only
        have hst : ∀ v ∈ (placesWithHash es.size (fun i => es[i]?.map (·.hash)) hh).filterMap (fun i => es[i]?.map (·.key)), Quiet8 A s v := by
          intro v hv
          obtain ⟨i, _, hi⟩ := List.mem_filterMap.mp hv
          cases hei : es[i]? with
          | none => rw [hei] at hi; cases hi
          | some e =>
            rw [hei] at hi
            obtain rfl : e.key = v := by simpa using hi
            exact hqs e (Array.mem_of_getElem? hei)
        by_cases hone : (((placesWithHash es.size (fun i => es[i]?.map (·.hash)) hh).filterMap (fun i => es[i]?.map (·.key))) == [key]) = true <;>
        (first | rw [if_pos hone] | rw [if_neg hone]) <;> (first | refine wpAny_bind (wpAny_pure ?_) | refine wpAny_bind (mayTell hq hst ?_)) <;> (
          rw [if_neg (by simp)]
          refine wpAny_bind ?_
          refine wpAny_forIn_list _
            (fun rest b s' => s' = s ∧ ∃ i hit, b = (none, hit) ∧ rest = (List.range' i (es.size - i)).filter (fun i => (es[i]?.map (·.hash)) == some hh) ∧ i ≤ es.size ∧
              ((hit = none ∧ ∀ k, j = some k → i ≤ k) ∨ ∃ k, hit = some k ∧ k < i ∧ j = some k)) _ ?_ ?_ _ _
            ⟨rfl, 0, none, rfl, by rw [placesWithHash, List.range_eq_range', Nat.sub_zero], Nat.zero_le _, .inl ⟨rfl, fun _ _ => Nat.zero_le _⟩⟩
          · rintro x rest b s' ⟨rfl, i, hit, rfl, hr', hi, hH⟩
            obtain ⟨hix, hxn, hpx, hskip, hrest⟩ := filter_range'_cons _ _ _ _ _ hr'.symm
            have hlt : x < es.size := by omega
            have hrest' : rest = (List.range' (x + 1) (es.size - (x + 1))).filter (fun i => (es[i]?.map (·.hash)) == some hh) := by rw [hrest]; congr 2; omega
            have hxe : es[x]? = some es[x] := Array.getElem?_eq_getElem hlt
            have hHx : (hit = none ∧ ∀ k, j = some k → x ≤ k) ∨ ∃ k, hit = some k ∧ k < x ∧ j = some k := by
              rcases hH with ⟨h0, hno⟩ | ⟨k, h1, hki, hk⟩
              · refine .inl ⟨h0, fun k hk => ?_⟩
                rcases Nat.lt_or_ge k x with hkx | hkx
                · have h1 := hskip k (hno k hk) hkx
                  obtain ⟨e, he, hhe⟩ := hj k hk
                  rw [he, Option.map_some, hhe] at h1
                  simp at h1
                · exact hkx
              · exact .inr ⟨k, h1, by omega, hk⟩
            have hstay : ¬ j = some x → ((hit = none ∧ ∀ k, j = some k → x + 1 ≤ k) ∨ ∃ k, hit = some k ∧ k < x + 1 ∧ j = some k) := fun hne => by
              rcases hHx with ⟨h0, hno⟩ | ⟨k, h1, hkx, hk⟩
              · exact .inl ⟨h0, fun k hk => Nat.lt_of_le_of_ne (hno k hk) fun e => hne (e ▸ hk)⟩
              · exact .inr ⟨k, h1, by omega, hk⟩
            rw [hxe]
            dsimp only
            by_cases hxh : (es[x].hash == hh) = true
            · rw [if_pos hxh]
              refine wpAny_bind (wpAny_dictEpoch ho hd (wpAny_bind (heq x _ hxe _ _ _ _ (wpAny_bind (wpAny_dictEpoch ho hd ?_)))))
              show wpAny _ _ (if (ep != ep) = true then _ else _) _ E _
              rw [if_neg (by simp)]
              by_cases hjx : j = some x
              · rw [decide_eq_true hjx]
                rcases hHx with ⟨rfl, _⟩ | ⟨k, _, hkx, hk⟩
                · first | rw [if_pos rfl] | skip
                  simp only [Option.isSome_none, Bool.false_eq_true, if_false]
                  first | refine wpAny_bind (wpAny_pure ?_) | skip
                  refine wpAny_bind (wpAny_rule ?_)
                  split
                  · exact wpAny_pure (wpAny_pure (hjx ▸ h))
                  · exact wpAny_pure ⟨rfl, x + 1, some x, rfl, hrest', hlt, .inr ⟨x, rfl, Nat.lt_succ_self x, hjx⟩⟩
                · rw [hjx] at hk; cases hk; exact absurd hkx (Nat.lt_irrefl _)
              · rw [decide_eq_false hjx]
                simp only [Bool.false_eq_true, if_false]
                refine wpAny_bind (wpAny_rule ?_)
                first | rw [if_neg (by simp)] | skip
                first
                  | exact wpAny_pure ⟨rfl, x + 1, hit, rfl, hrest', hlt, hstay hjx⟩
                  | exact wpAny_bind (wpAny_pure (wpAny_pure ⟨rfl, x + 1, hit, rfl, hrest', hlt, hstay hjx⟩))
            · rw [if_neg hxh]
              refine wpAny_pure ⟨rfl, x + 1, hit, rfl, hrest', hlt, hstay fun hjx => hxh (beq_iff_eq.mpr (unique _ _ hxe hjx))⟩
          · rintro b s' ⟨rfl, i, hit, rfl, hr', hi, hH⟩
            rcases hH with ⟨rfl, hno⟩ | ⟨k, rfl, _, hk⟩
            · have : j = none := by
                cases hjn : j with
                | none => rfl
                | some k =>
                  obtain ⟨e, he, hhe⟩ := hj k hjn
                  have hk : k < es.size := (Array.getElem?_eq_some_iff.mp he).1
                  have h1 := List.filter_eq_nil_iff.mp hr'.symm k (List.mem_range'_1.mpr ⟨hno k hjn, by have := hno k hjn; omega⟩)
                  rw [he, Option.map_some, hhe] at h1
                  simp at h1
              exact wpAny_pure (this ▸ h)
            · exact wpAny_pure (hk ▸ h))
      split
      · rename_i a
        rw [if_neg (by
          rw [← Array.any_toList, List.any_eq_true]
          rintro ⟨e, hin, hc⟩
          simp only [Bool.and_eq_true, beq_iff_eq, bne_iff_ne, ne_eq] at hc
          exact hc.2 (hr a rfl e (Array.mem_toList_iff.mp hin) hc.1))]
        exact go
      · exact go
  unfold dictFind
  try with_reducible refine wpAny_holding ?_
  refine wpAny_bind (wpAny_dictEntries ho hd ?_)
  cases key with
  | str x t =>
    dsimp only
    by_cases hstrs : (es.all fun e => isExactStrKey e.key) = true
    · rw [if_pos hstrs]
      have hf := hs x t rfl hstrs
      unfold foundByValue
      rw [hf]
      cases hjn : j with
      | none => rw [hjn] at h; exact wpAny_pure h
      | some i =>
        obtain ⟨e, he, hhe⟩ := hj i hjn
        have h1 := heq i e he
        rw [hjn] at h h1
        simp only [he]
        refine wpAny_bind (wpAny_dictEpoch ho hd (wpAny_bind (h1 _ _ _ _ (wpAny_bind (wpAny_dictEpoch ho hd ?_)))))
        show wpAny _ _ (if (ep != ep) = true then _ else _) _ E _
        rw [if_neg (by simp), decide_eq_true rfl]
        exact wpAny_bind (wpAny_rule (wpAny_pure h))
    · rw [if_neg hstrs]; exact rest
  | _ => exact rest
end
end Mine
end

section -- B17
open PySem PySem.Calls PySem.W PyProof.Rows PySem.SeqAt PySem.MeetsSeq
set_option maxRecDepth 100000
set_option linter.unusedVariables false
namespace Mine
def strsOf : List PD → List Str
  | .str x :: r => x :: strsOf r
  | _ :: r => strsOf r
  | [] => []
def isStrD : PD → Bool
  | .str _ => true
  | _ => false
/-- what may stand as a key here -/
def keyB : PD → Bool
  | .str _ => true
  | .int _ => true
  | .tup xs => xs.all isStrD
  | _ => false
def keyEq : PD → PD → Bool
  | .str x, .str y => x == y
  | .int x, .int y => x == y
  | .tup xs, .tup ys => strsOf xs == strsOf ys
  | _, _ => false
/-- the hashes of this world -/
def hkW (w : World) : PD → Int
  | .str x => hashStr w x
  | .int i => hashInt i
  | .tup xs => reduceHash (Builtin.Tuple.tupleHashOf ((strsOf xs).map (hashStr w)))
  | _ => 0
theorem keyEq_hash {w : World} {a b : PD} (h : keyEq a b = true) : hkW w a = hkW w b := by
  unfold keyEq at h
  split at h
  · rw [beq_iff_eq.mp h]
  · rw [beq_iff_eq.mp h]
  · show reduceHash _ = reduceHash _
    rw [beq_iff_eq.mp h]
  · cases h
section
variable {prog : Program} {w : World} {A : Around} {E : Value → Shared → Prop} {s : Shared} {H : Heap} {L : Led} {hk : PD → Int}
theorem IsAll.strs {vs : List Value} {xs : List PD} (i : IsAll hk L vs xs) (h : xs.all isStrD = true) : ItemsAre (PySem.strKind prog w) (strsOf xs) vs := by
  induction xs generalizing vs with
  | nil => cases i; exact .nil
  | cons x xs ih =>
    cases i with
    | cons i1 i2 =>
      rw [List.all_cons, Bool.and_eq_true] at h
      obtain ⟨h1, h2⟩ := h
      cases x <;> first | (cases h1; done) | skip
      cases i1
      exact .cons (by simp [PySem.strKind, Value.isStrOf]) (ih i2 h2)
theorem Is.tupKey {v : Value} {xs : List PD} (led : Holds H L s.heap) (i : Is hk L v (.tup xs)) (h : xs.all isStrD = true) : ∃ a, v = .ref a ∧ IsTupleKey (PySem.strKind prog w) s.heap (strsOf xs) a := by
  cases i with
  | tup h1 h2 h3 h4 => exact ⟨_, rfl, _, _, _, (led _ _ h1).1, h2, h3, h4.strs h⟩
theorem Is.pyHash {v : Value} {d : PD} {Q : Int → Shared → Prop} (led : Holds H L s.heap) (hu : A.units < cLine) (i : Is hk L v d) (h : keyB d = true) (k : ∀ tk, Q (hkW w d) { s with toks := tk }) : wpAny (model prog w) A (PySem.pyHash v) Q E s := by
  cases d <;> simp [keyB] at h
  · cases i; exact wpAny_pyHash_int (k _)
  · cases i; exact wpAny_pyHash_str (k _)
  · obtain ⟨a, rfl, t⟩ := i.tupKey (prog := prog) (w := w) led (List.all_eq_true.mpr h)
    exact wpAny_pyHash_tuple hu t (k _)
theorem Is.eqAt {u v : Value} {a b : PD} (led : Holds H L s.heap) (hu : A.units < cLine) (i : Is hk L u a) (j : Is hk L v b) (ha : keyB a = true) (hb : keyB b = true) : EqAt A s u v (keyEq a b) := by
  have tup : ∀ {v : Value} {xs : List PD}, Is hk L v (.tup xs) → ∃ a vs, v = .ref a ∧ s.heap.IsTuple a vs := fun i => by
    cases i with
    | tup h1 h2 h3 h4 => exact ⟨_, _, rfl, _, (led _ _ h1).1, h2, _, h3⟩
  cases a <;> simp [keyB] at ha <;> cases b <;> simp [keyB] at hb
  · cases i; cases j; exact EqAt.int_int _ _ _ _
  · cases i; cases j; exact EqAt.int_str _ _ _ _
  · cases i; obtain ⟨a, vs, rfl, t⟩ := tup j; exact EqAt.int_tuple _ _ t hu
  · cases i; cases j; exact EqAt.str_int _ _ _ _
  · cases i; cases j; exact EqAt.str_str _ _ _ _
  · cases i; obtain ⟨a, vs, rfl, t⟩ := tup j; exact EqAt.str_tuple _ _ t hu
  · cases j; obtain ⟨a, vs, rfl, t⟩ := tup i; exact EqAt.tuple_int _ _ t hu
  · cases j; obtain ⟨a, vs, rfl, t⟩ := tup i; exact EqAt.tuple_str _ _ t hu
  · intro prog w E Q hq
    obtain ⟨a, rfl, t1⟩ := i.tupKey (prog := prog) (w := w) led (List.all_eq_true.mpr ha)
    obtain ⟨b, rfl, t2⟩ := j.tupKey (prog := prog) (w := w) led (List.all_eq_true.mpr hb)
    refine wpAny_eqBool_tuple hu t1 t2 ?_
    rename_i xs ys
    have : decide (strsOf xs = strsOf ys) = keyEq (.tup xs) (.tup ys) := by
      show _ = (strsOf xs == strsOf ys)
      by_cases e : strsOf xs = strsOf ys
      · rw [decide_eq_true e, e]; simp
      · rw [decide_eq_false e]; exact (beq_eq_false_iff_ne.mpr e).symm
    rw [this]; exact hq
theorem Is.quiet8 {v : Value} {d : PD} (led : Holds H L s.heap) (i : Is hk L v d) (h : keyB d = true) : Quiet8 A s v := by
  intro prog w E Q hq
  cases d <;> simp [keyB] at h
  · cases i; rw [eqIsQuiet_byValue 8 rfl]; exact wpAny_pure hq
  · cases i; rw [eqIsQuiet_byValue 8 rfl]; exact wpAny_pure hq
  · obtain ⟨a, rfl, t⟩ := i.tupKey (prog := prog) (w := w) led (List.all_eq_true.mpr h)
    exact wpAny_eqIsQuiet_tuple t hq

theorem IsEs.get {es : List DictEntry} {xs : List (PD × PD)} (h : IsEs hk L es xs) {i : Nat} {e : DictEntry} (he : es[i]? = some e) : ∃ x, xs[i]? = some x ∧ e.hash = hk x.1 ∧ Is hk L e.key x.1 ∧ Is hk L e.val x.2 := by
  induction xs generalizing es i with
  | nil => cases h; simp at he
  | cons x xs ih =>
    cases h with
    | cons h0 h1 h2 h3 =>
      cases i with
      | zero => simp at he; subst he; exact ⟨x, rfl, h0, h1, h2⟩
      | succ i => simpa using ih h3 (by simpa using he)
theorem IsEs.length {es : List DictEntry} {xs : List (PD × PD)} (h : IsEs hk L es xs) : es.length = xs.length := by
  induction xs generalizing es with
  | nil => cases h; rfl
  | cons x xs ih => cases h with | cons h0 h1 h2 h3 => simp [ih h3]
theorem IsEs.append {es es' : List DictEntry} {xs xs' : List (PD × PD)} (h : IsEs hk L es xs) (g : IsEs hk L es' xs') : IsEs hk L (es ++ es') (xs ++ xs') := by
  induction xs generalizing es with
  | nil => cases h; exact g
  | cons x xs ih => cases h with | cons h0 h1 h2 h3 => exact .cons h0 h1 h2 (ih h3)

/-- where the key stands among the entries -/
def KeyAt (xs : List (PD × PD)) (k : PD) (j : Option Nat) : Prop := (∀ x ∈ xs, keyB x.1 = true) ∧ keyB k = true ∧ (∀ i x, xs[i]? = some x → keyEq x.1 k = decide (j = some i)) ∧ ∀ i, j = some i → i < xs.length
theorem find_pd {D : Addr} {o : Obj} {es : Array DictEntry} {ep : Nat} {xs : List (PD × PD)} {k : PD} {kv : Value} {j : Option Nat} {Q : Option Nat → Shared → Prop} (led : Holds H L s.heap) (hu : A.units < cLine) (ho : s.heap.get? D = some o) (hd : o.data = .dict es ep) (ies : IsEs (hkW w) L es.toList xs) (ik : Is (hkW w) L kv k)
    (hj : KeyAt xs k j) (h : Q j s) : wpAny (model prog w) A (dictFind D kv (hkW w k)) Q E s := by
  obtain ⟨kx, kk, heq, hlt⟩ := hj
  have at_ : ∀ (i : Nat) (e : DictEntry), es[i]? = some e → ∃ x, xs[i]? = some x ∧ e.hash = hkW w x.1 ∧ Is (hkW w) L e.key x.1 ∧ Is (hkW w) L e.val x.2 := fun i e he => ies.get (by rw [Array.getElem?_toList]; exact he)
  have mem : ∀ e : DictEntry, e ∈ es → ∃ x ∈ xs, e.hash = hkW w x.1 ∧ Is (hkW w) L e.key x.1 := fun e he => by
    obtain ⟨i, hi, rfl⟩ := Array.mem_iff_getElem.mp he
    obtain ⟨x, hx, h1, h2, _⟩ := at_ i _ (Array.getElem?_eq_getElem hi)
    exact ⟨x, List.mem_of_getElem? hx, h1, h2⟩
  have size : es.size = xs.length := by rw [← ies.length, Array.length_toList]
  refine find_core (j := j) ho hd (fun i e he => ?_) (fun i hi => ?_) (ik.quiet8 led kk) (fun e he => ?_) (fun a ha e he hea => ?_) (fun x t hx hall => ?_) h
  · obtain ⟨x, hx, h1, h2, _⟩ := at_ i e he
    exact heq i x hx ▸ Is.eqAt led hu h2 ik (kx x (List.mem_of_getElem? hx)) kk
  · have hi' : i < es.size := size ▸ hlt i hi
    refine ⟨es[i], Array.getElem?_eq_getElem hi', ?_⟩
    obtain ⟨x, hx, h1, h2, _⟩ := at_ i _ (Array.getElem?_eq_getElem hi')
    rw [h1]
    exact keyEq_hash (by rw [heq i x hx, hi]; simp)
  · obtain ⟨x, hx, h1, h2⟩ := mem e he
    exact h2.quiet8 led (kx x hx)
  · obtain ⟨x, hx, h1, h2⟩ := mem e he
    rw [h1]
    have hkx := kx x hx
    rw [hea, ha] at h2
    rw [ha] at ik
    generalize x.1 = d at h2 hkx
    cases d <;> simp [keyB] at hkx <;> first | (cases h2; done) | skip
    rename_i xs1
    cases k <;> simp [keyB] at kk <;> first | (cases ik; done) | skip
    rename_i xs2
    obtain ⟨a1, e1, t1⟩ := h2.tupKey (prog := prog) (w := w) led (List.all_eq_true.mpr hkx)
    obtain ⟨a2, e2, t2⟩ := ik.tupKey (prog := prog) (w := w) led (List.all_eq_true.mpr kk)
    cases e1; cases e2
    show reduceHash _ = reduceHash _
    rw [t1.inj t2]
  · subst hx
    have hkx : k = .str x := by cases k <;> simp [keyB] at kk <;> cases ik; rfl
    subst hkx
    have p : ∀ i (hi : i < es.size), es[i].key.isStr x = decide (j = some i) := fun i hi => by
      obtain ⟨y, hy, h1, h2, _⟩ := at_ i _ (Array.getElem?_eq_getElem hi)
      rw [← heq i y hy]
      have hs := Array.all_eq_true.mp hall i hi
      have hky := kx y (List.mem_of_getElem? hy)
      generalize y.1 = d at h2 hky
      cases d <;> simp [keyB] at hky
      · generalize es[i].key = u at h2 hs; cases h2; simp [isExactStrKey] at hs
      · generalize es[i].key = u at h2 hs; cases h2
        rfl
      · generalize es[i].key = u at h2 hs; cases h2; simp [isExactStrKey] at hs
    cases j with
    | none =>
      refine Array.findIdx?_eq_none_iff.mpr fun e he => ?_
      obtain ⟨i, hi, rfl⟩ := Array.mem_iff_getElem.mp he
      rw [p i hi]; simp
    | some i =>
      have hi' : i < es.size := size ▸ hlt i rfl
      exact Array.findIdx?_eq_some_iff_getElem.mpr ⟨hi', by rw [p i hi']; simp, fun j' hj' => by rw [p j' (Nat.lt_trans hj' hi')]; simp; omega⟩
end
end Mine
end

section -- B18
open PySem PySem.Calls PySem.W PyProof.Rows PySem.SeqAt PySem.MeetsSeq
set_option maxRecDepth 100000
set_option linter.unusedVariables false
namespace Mine
section
variable {prog : Program} {w : World} {H : Heap} {n : Nat} {F : Fm} {wc : List Str} {look : Look} {own own' : Own} {A : Around} {B : Bs} {s s' : Shared} {L L' : Led} {env : Env} {E : Value → Shared → Prop} {G : Goal}
theorem Ok.units1 {A : Around} (ok : Ok n A) (hn : 1 ≤ n) : A.in1.units < cLine := by rw [units_in1]; have := ok.units; omega
theorem get_pd {D : Addr} {o : Obj} {es : Array DictEntry} {ep : Nat} {xs : List (PD × PD)} {k : PD} {kv : Value} {i : Nat} {d : PD} {Q : Option Value → Shared → Prop} (led : Holds H L s.heap) (hu : A.units < cLine) (ho : s.heap.get? D = some o) (hd : o.data = .dict es ep) (ies : IsEs (hkW w) L es.toList xs) (ik : Is (hkW w) L kv k)
    (hj : KeyAt xs k (some i)) (hx : xs[i]? = some (k', d)) (h : ∀ v tk, Is (hkW w) L v d → Q (some v) { s with toks := tk }) : wpAny (model prog w) A (dictGet D kv) Q E s := by
  unfold dictGet
  try with_reducible refine wpAny_holding ?_
  refine wpAny_bind (ik.pyHash led hu hj.2.1 fun tk => ?_)
  refine wpAny_bind (find_pd (s := { s with toks := tk }) led hu ho hd ies ik hj ?_)
  refine wpAny_bind (wpAny_dictEntries (s := { s with toks := tk }) ho hd ?_)
  have hi : i < es.size := by rw [← Array.length_toList, ies.length]; exact (List.getElem?_eq_some_iff.mp hx).1
  obtain ⟨x, hx', _, _, iv⟩ := ies.get (i := i) (e := es[i]) (by rw [Array.getElem?_toList]; exact Array.getElem?_eq_getElem hi)
  rw [hx] at hx'; cases hx'
  rw [Array.getElem?_eq_getElem hi]
  exact wpAny_pure (h _ _ iv)
theorem set_pd {D : Addr} {es : Array DictEntry} {ep : Nat} {xs : List (PD × PD)} {k d : PD} {kv v : Value} {Q : Unit → Shared → Prop} (led : Holds H L s.heap) (hu : A.units < cLine) (ho : s.heap.get? D = some ({ cls := .type "dict", data := .dict es ep } : Obj)) (ies : IsEs (hkW w) L es.toList xs) (ik : Is (hkW w) L kv k) (iv : Is (hkW w) L v d)
    (hj : KeyAt xs k none) (hz : xs.length ≤ sizeLine) (hnl : ∀ o, ¬ L D o) (h : ∀ h' tk, Heap.SameBut D s.heap h' → OwnAt (hkW w) L h' D (.dct (xs ++ [(k, d)])) → Q () { s with heap := h', toks := tk }) : wpAny (model prog w) A (dictSet D kv v) Q E s := by
  unfold dictSet
  try with_reducible refine wpAny_holding ?_
  refine wpAny_bind (ik.pyHash led hu hj.2.1 fun tk => ?_)
  unfold dictSetHashed
  try with_reducible refine wpAny_holding ?_
  refine wpAny_bind (find_pd (s := { s with toks := tk }) led hu ho rfl ies ik hj ?_)
  have size : es.size = xs.length := by rw [← ies.length, Array.length_toList]
  refine wpAny_bind (wpAny_rule (wpAny_updateDictKeys (hz := by omega) (s := { s with toks := tk }) ho rfl (h _ tk (Heap.SameBut.update ..) ?_)))
  refine ⟨es.push ⟨hkW w k, kv, v⟩, ep + 1, Heap.get?_update_self _ ho rfl, ?_⟩
  rw [Array.toList_push]
  exact ies.append (.cons rfl ik iv .nil)

/-- what `o[i]` gives -/
def GI (prog : Program) (w : World) (H : Heap) (n : Nat) (d i r : PD) : Prop :=
  ∀ (A : Around) (s : Shared) (L : Led) (o v : Value), Ok n A → Inv H s.heap → Holds H L s.heap → Is (hkW w) L o d → Is (hkW w) L v i → (∃ T id, s.TypeIs o T ∧ typeLookup (.type T) "__getitem__" = pure (some (.builtin id))) ∧ wpAny (model prog w) A (getItem o v) (Post (hkW w) H L s r) (fun _ _ => False) s
theorem EV.sub {value slice : Expr} {pos : Pos} {d i r : PD} (h : EV prog w (hkW w) H n F look value d) (hi : EV prog w (hkW w) H n F look slice i) (g : GI prog w H n d i r)
    (hs : ∀ o v, subscripted slice false o v = operate [o, v] (getItem o v) := by intro _ _; rfl) (ht : ∀ o r, letTemporaryGo value o r = pure () := by intro _ _; rfl) : EV prog w (hkW w) H n F look (.Subscript value slice pos) r := fun A s L env ok p => by
  refine Subscript_ (h.use ok p fun o s₁ q₁ i₁ p₁ => hi.use ok p₁ fun v s₂ q₂ i₂ p₂ => ?_)
  obtain ⟨⟨T, id, hT, hl⟩, hg⟩ := g A s₂ _ o v ok p₂.inv p₂.led (i₁.mono fun _ _ => .inl) i₂
  exact subscriptTail_builtin hT hl (wpAny_mono hg (fun _ _ e => Post.step q₁ (Post.step q₂ e)) fun _ _ f => f.elim) (hs o v) (ht o)
theorem GI.dict {xs : List (PD × PD)} {k k' d : PD} {i : Nat} (hn : 1 ≤ n) (hj : KeyAt xs k (some i)) (hx : xs[i]? = some (k', d)) : GI prog w H n (.dict xs) k d := fun A s L o v ok inv led io iv => by
  cases io with
  | @dict a ob es ep _ h1 h2 h3 h4 =>
    have hT : s.TypeIs (.ref a) "dict" := ⟨_, (led _ _ h1).1, h2.1⟩
    refine ⟨⟨"dict", _, hT, slot_dict_getitem.lookup⟩, ?_⟩
    unfold getItem
    try with_reducible refine wpAny_holding ?_
    refine wpAny_bind (wpAny_sequenceKey hT (by decide) ?_)
    refine wpAny_bind (wpAny_callSpecial?_slot (name := Str.ofString "__getitem__") hT slot_dict_getitem
      (wpAny_call_entry slot_dict_getitem hT entry_dict_getitem ?_ (args_dict_getitem _ _)))
    show wpAny _ _ (dictGet a v >>= _) _ _ s
    refine wpAny_bind (get_pd led (ok.units1 hn) (led _ _ h1).1 h3 h4 iv hj hx fun r tk ir => ?_)
    exact wpAny_pure ⟨_, rfl, wpAny_pure (Pure.post (.toks inv tk) ir)⟩
theorem GI.list {xs : List PD} {d : PD} {k : Nat} (hx : xs[k]? = some d) (hk : (k : Int) < 2 ^ 63 := by decide) : GI prog w H n (.list xs) (.int k) d := fun A s L o v ok inv led io iv => by
  cases io with
  | @list a ob vs ep _ h1 h2 h3 h4 =>
    cases iv
    have hl : s.heap.IsList a vs := ⟨_, (led _ _ h1).1, h2, _, h3⟩
    obtain ⟨v, hv, iv⟩ := h4.get' hx
    refine ⟨⟨"list", _, hl.typeIs, slot_list_getitem.lookup⟩, ?_⟩
    exact wpAny_getItem_list hl (by omega) hk (x := v) (by rw [Int.toNat_natCast, ← Array.getElem?_toList]; exact hv) (Pure.post (.refl inv) iv)
theorem GI.tup {xs : List PD} {d : PD} {k : Nat} (hx : xs[k]? = some d) (hk : (k : Int) < 2 ^ 63 := by decide) : GI prog w H n (.tup xs) (.int k) d := fun A s L o v ok inv led io iv => by
  cases io with
  | @tup a ob vs ep _ h1 h2 h3 h4 =>
    cases iv
    have hl : IsTup s.heap a vs := ⟨_, (led _ _ h1).1, h2, _, h3⟩
    obtain ⟨v, hv, iv⟩ := h4.get' hx
    refine ⟨⟨"tuple", _, hl.typeIs, slot_tuple_getitem.lookup⟩, ?_⟩
    have hlt : k < vs.size := by rw [← Array.length_toList]; exact (List.getElem?_eq_some_iff.mp hv).1
    refine getItem_tuple hl (by omega) hk (j := k) (x := v) ?_ (by rw [← Array.getElem?_toList]; exact hv) (Pure.post (.refl inv) iv)
    unfold seqIndex?
    simp
    omega

/-- an own table takes a new key -/
theorem EX.putItem {x : Str} {px pos pos' : Pos} {e idx : Expr} {d k : PD} {D : Addr} {es : List (PD × PD)} {rest : List Stmt} (hn : 1 ≤ n) (h : EV prog w (hkW w) H n F look e d) (hx : look x = some (.val (.ref D))) (hi : EV prog w (hkW w) H n F look idx k) (hj : KeyAt es k .none) (hz : es.length ≤ sizeLine := by decide)
    (hrest : EX prog w (hkW w) H n F wc look ((D, .dct (es ++ [(k, d)])) :: own) rest G)
    (hs : ∀ env, swapsWith e (some (.Subscript (.Name x px) idx pos')) pos.line env = pure false := by intro _; rfl) (hdb : (x == ("__debug__" : Str)) = false := by rfl) :
    EX prog w (hkW w) H n F wc look ((D, .dct es) :: own) (.Assign [.Subscript (.Name x px) idx pos'] e pos :: rest) G := fun A B s L env ok st => by
  refine wpAny_execs_cons (wpAny_Assign_Subscript (h.use ok st.pre fun v s₁ q₁ i₁ p₁ => ?_) (hs env))
  have st₁ := st.step q₁
  refine (EV.name (prog := prog) (n := n) hx hdb).use ok st₁.pre fun o s₂ q₂ i₂ p₂ => ?_
  have st₂ := st₁.step q₂
  cases i₂
  refine hi.use ok st₂.pre fun kv s₃ q₃ i₃ p₃ => ?_
  have st₃ := st₂.step q₃
  obtain ⟨⟨ds, ep, hD, ies⟩, _, nl, _⟩ := st₃.ownAt _ (.head _)
  have hT : s₃.TypeIs (.ref D) "dict" := ⟨_, hD, rfl⟩
  unfold setItem
  try with_reducible refine wpAny_holding ?_
  refine wpAny_bind (wpAny_sequenceKey hT (by decide) ?_)
  refine wpAny_bind (wpAny_callSpecial?_slot (name := Str.ofString "__setitem__") hT slot_dict_setitem
    (wpAny_call_entry slot_dict_setitem hT entry_dict_setitem ?_ (args_dict_setitem _ _ _)))
  show wpAny _ _ (Builtin.Dict.notOrdered "__setitem__" ⟨[.ref D, kv, v], []⟩ >>= _) _ _ s₃
  refine wpAny_bind (wpAny_notOrdered_dict hT ?_)
  show wpAny _ _ (dictSet D kv v >>= _) _ _ s₃
  refine wpAny_bind (set_pd st₃.pre.led (ok.units1 hn) hD ies i₃ (i₁.mono fun _ _ e => .inl (.inl e)) hj hz nl fun h' tk hs' ho => ?_)
  exact wpAny_pure ⟨.none, rfl, wpAny_pure (hrest A B _ _ env ok (st₃.own1 hs' ho))⟩
end
end Mine
end

section -- B19
open PySem PySem.Calls PySem.W PyProof.Rows PySem.SeqAt PySem.MeetsSeq
set_option maxRecDepth 100000
set_option linter.unusedVariables false
namespace Mine
section
variable {prog : Program} {w : World} {H : Heap} {n : Nat} {F : Fm} {wc : List Str} {look : Look} {own own' : Own} {A : Around} {B : Bs} {s s' : Shared} {L L' : Led} {env : Env} {E : Value → Shared → Prop} {G : Goal} {hk : PD → Int}
/-- the expression makes a new object, empty as yet -/
def EN (prog : Program) (w : World) (hk : PD → Int) (H : Heap) (n : Nat) (F : Fm) (look : Look) (e : Expr) (x0 : OwnO) : Prop :=
  ∀ (A : Around) (s : Shared) (L : Led) (env : Env), Ok n A → Pre hk H F env look L s → wpAny (model prog w) A (eval e env) (fun v s' => ∃ D, v = .ref D ∧ Pure H s s' ∧ s.heap.get? D = none ∧ ∀ L', OwnAt hk L' s'.heap D x0) (fun _ _ => False) s
theorem St.addOwn {D : Addr} {x0 : OwnO} (st : St hk H B F wc env look own L s) (q : Pure H s s') (hD : s.heap.get? D = none) (ho : OwnAt hk L s'.heap D x0) : St hk H B F wc env look ((D, x0) :: own) L s' := by
  have st' := st.stepL q (L₂ := L) (fun _ _ => id) (st.pre.led.keep q.keep) fun _ _ => .inl
  have ne : ∀ {a : Addr}, (∃ o, s.heap.get? a = some o) → a ≠ D := fun ⟨o, e⟩ z => by rw [z, hD] at e; cases e
  refine { st' with ownAt := fun p hp => ?_, nodup := ?_ }
  · rcases List.mem_cons.mp hp with e | hp
    · subst e
      refine ⟨ho, .inl (st.pure.none hD), fun o e => ?_, fun e => ?_, fun x c hc e => ?_⟩
      · rw [(st.pre.led _ _ e).1] at hD; cases hD
      · exact ne (by obtain ⟨_, _, m, c⟩ := st.loc; exact Ns.there c) e.symm
      · exact ne (st.pre.cthere x c hc) e
    · exact st'.ownAt p hp
  · rw [List.map_cons, List.nodup_cons]
    refine ⟨fun hm => ?_, st'.nodup⟩
    obtain ⟨p, hp, e⟩ := List.mem_map.mp hm
    exact ne (st.ownAt p hp).1.there e
theorem EX.newOwn {x : Str} {p' pos : Pos} {e : Expr} {x0 : OwnO} {rest : List Stmt} (h : EN prog w hk H n F look e x0) (k : ∀ D, EX prog w hk H n F wc (upd look x (.val (.ref D))) ((D, x0) :: own) rest G)
    (hx : F.sc.names.lookup x = some .local ∨ (F.sc.names.lookup x = some .cell ∧ x ∈ wc) := by first | exact .inl rfl | exact .inr ⟨rfl, by simp⟩)
    (hs : ∀ env, swapsWith e (some (.Name x p')) pos.line env = pure false := by intro _; rfl) : EX prog w hk H n F wc look own (.Assign [.Name x p'] e pos :: rest) G := fun A B s L env ok st => by
  refine wpAny_execs_cons (wpAny_Assign_Name (wpAny_mono (h A s L env ok st.pre) (fun v s₁ h₁ => ?_) fun _ _ f => f.elim) (hs env))
  obtain ⟨D, rfl, q, hD, ho⟩ := h₁
  exact (st.addOwn q hD (ho L)).store (.val _) hx fun s₂ st₂ => k D A B s₂ _ env ok st₂
theorem EN.list {pos : Pos} : EN prog w hk H n F look (.List [] pos) (.lst []) := fun A s L env ok p => by
  refine wpAny_List (ES.nil.use ok p fun vs s' q i p' => ⟨by rw [i.length]; exact Nat.zero_le _, ?_⟩)
  obtain rfl := i.none0
  exact ⟨_, rfl, q.trans (.push p'.inv _), q.keep.none (get_size _), fun L' => ⟨_, _, Heap.get?_push_size _ rfl, .nil⟩⟩

theorem typeCall_dict_0 : checkTypeCall "dict" ⟨[], []⟩ = pure () := by kernel_rfl
theorem newCall_dict_0 : checkBuiltinCall "dict.__new__" ⟨[.type "dict"], []⟩ = pure () := by kernel_rfl
theorem args_dict_init_0 (a : Value) : argsOk "dict.__init__" ⟨[a], []⟩ := by unfold argsOk; kernel_rfl
theorem code_dict_new0 {Q₁ : Value → Shared → Prop} (h : Q₁ (.ref s.heap.objs.size) { s with heap := s.heap.push { cls := .type "dict", data := .dict #[] } }) :
    codeAny (model prog w) A (.call (.builtin "dict.__new__") ⟨[.type "dict"], []⟩) (wants Q₁ E) s := by
  refine codeAny_call_builtin F.kt_plain_dict_new F.kt_entry_dict_new (wpAny_of_eq newCall_dict_0 ?_)
  have hsub := F.kt_sub_dict
  have hmro := F.kt_mro_dict
  obtain ⟨hp, g, d, tk, os⟩ := s
  unfold Builtin.«dict.__new__»
  repeat (first | with_reducible refine wpAny_bind ?_ | with_reducible refine wpAny_pure ?_ | with_reducible refine wpAny_holding ?_ | with_reducible refine wpAny_of_eq hsub ?_ | with_reducible refine wpAny_of_eq hmro ?_ | with_reducible refine wpAny_alloc' ?_ | ((with_reducible refine wpAny_ite_false ?_ ?_); focus (rfl; done)) | ((with_reducible refine wpAny_ite_true ?_ ?_); focus (rfl; done)) | wp_delta | wp_step)
  exact h
theorem call_dict0 {Q : Value → Shared → Prop} (h : Q (.ref s.heap.objs.size) { s with heap := s.heap.push { cls := .type "dict", data := .dict #[] } }) : wpAny (model prog w) A (call (.type "dict") []) Q E s := by
  refine callType_codes (Q₁ := fun obj s₁ => obj = .ref s.heap.objs.size ∧ s₁ = { s with heap := s.heap.push { cls := .type "dict", data := .dict #[] } }) F.kt_called_dict typeCall_dict_0 F.entry_dict_init (code_dict_new0 ⟨rfl, rfl⟩) ?_
  rintro obj s₁ ⟨rfl, rfl⟩
  have hT : Shared.TypeIs { s with heap := s.heap.push { cls := .type "dict", data := .dict #[] } } (.ref s.heap.objs.size) "dict" := ⟨_, Heap.get?_push_size _ rfl, rfl⟩
  refine ⟨hT, args_dict_init_0 _, ?_⟩
  unfold Builtin.«dict.__init__»
  refine wpAny_bind ?_
  unfold Builtin.Dict.selfAndRest
  refine wpAny_bind (wpAny_notOrdered_dict hT ?_)
  show wpAny _ _ (pure (s.heap.objs.size, [])) _ _ _
  refine wpAny_pure ?_
  show wpAny _ _ (Builtin.Dict.addKeywords s.heap.objs.size [] >>= fun _ => ret .none) _ _ _
  unfold Builtin.Dict.addKeywords
  refine wpAny_bind (wpAny_pure ?_)
  exact wpAny_pure ⟨rfl, h⟩
/-- a call of dict with nothing -/
theorem EN.dict0 {fe : Expr} {pos : Pos} (hf : EV prog w hk H n F look fe (.val (.type "dict")))
    (harm : ∀ env, eval (.Call fe [] [] pos) env = (do callWith pos (← eval fe env) [] (backTo pos (starEach [] env)) (backToKw pos (keywordEach [] env))) := by intro _; rfl) : EN prog w hk H n F look (.Call fe [] [] pos) (.dct []) := fun A s L env ok p => by
  rw [harm]
  refine wpAny_bind (hf.use ok p fun v s' q i p' => ?_)
  cases i
  refine callWith_any (evalArgs_any rfl rfl (ES.nil.use ok p' fun vs s₁ q₁ i₁ p₁ => ?_))
  obtain rfl := i₁.none0
  refine wpAny_mono (EK.nil.2 A s₁ _ env pos ok p₁) (fun kvs s₂ h₂ => ?_) fun _ _ f => f
  obtain ⟨q₂, i₂⟩ := h₂
  obtain rfl := i₂.none0
  have p₂ := p₁.pure q₂
  refine wpAny_mono ((KP.type (hk := hk)) A s₂ _ _ p₂.inv p₂.led (.val _)) (fun _ s₃ e => ?_) fun _ _ f => f.elim
  subst e
  show wpAny _ _ (call (.type "dict") []) _ _ _
  refine call_dict0 ⟨_, rfl, ((q.trans q₁).trans q₂).trans (.push p₂.inv _), ((q.trans q₁).trans q₂).keep.none (get_size _), fun L' => ⟨_, _, Heap.get?_push_size _ rfl, .nil⟩⟩

/-- a method's call -/
theorem call_method {o : Expr} {name : Str} {apos pos : Pos} {args : List Expr} {kws : List Keyword} {pl : Sem Bool} {Q : Value → Shared → Prop}
    (h : wpAny (model prog w) A (eval o env) (fun ov s₁ => wpAny (model prog w) A (getMethod ov name pl) (fun fx s₂ => wpAny (model prog w) A (callWith pos fx.1 fx.2 (backTo pos (starEach args env)) (backToKw pos (keywordEach kws env))) Q E s₂) E s₁) E s)
    (he : eval (.Call (.Attribute o name apos) args kws pos) env = (do
      let ov ← eval o env
      standAt apos.atName
      let (f, first) ← holding [ov] (getMethod ov name pl)
      callWith pos f first (backTo pos (starEach args env)) (backToKw pos (keywordEach kws env)))) :
    wpAny (model prog w) A (eval (.Call (.Attribute o name apos) args kws pos) env) Q E s := by
  rw [he]
  refine wpAny_bind (wpAny_mono h (fun ov s₁ h₁ => wpAny_bind (wpAny_standAt (wpAny_bind (wpAny_holding (wpAny_mono h₁ (fun fx s₂ h₂ => ?_) fun _ _ x => x))))) fun _ _ x => x)
  exact h₂
/-- what a method of a datum's gives -/
def MT (prog : Program) (w : World) (hk : PD → Int) (H : Heap) (n : Nat) (d : PD) (name : Str) (ps : List PD) (r : PD) : Prop :=
  ∀ (A : Around) (s : Shared) (L : Led) (o : Value) (pl : Sem Bool), Ok n A → Inv H s.heap → Holds H L s.heap → Is hk L o d → wpAny (model prog w) A (getMethod o name pl) (fun fx s₁ => s₁ = s ∧ ∃ id, fx.1 = .builtin id ∧
    ∀ (s' : Shared) (L' : Led) (vs : List Value), Inv H s'.heap → Holds H L' s'.heap → Is hk L' o d → IsAll hk L' vs ps → wpAny (model prog w) A (call fx.1 (fx.2 ++ vs)) (Post hk H L' s' r) (fun _ _ => False) s') (fun _ _ => False) s
theorem EV.meth {o : Expr} {name : Str} {apos pos : Pos} {args : List Expr} {d r : PD} {ps : List PD} {pl : Env → Sem Bool} (h : EV prog w hk H n F look o d) (ha : ES prog w hk H n F look args ps) (m : MT prog w hk H n d name ps r)
    (hp : ∀ pos env, (backTo pos (starEach args env)).any (·.1) = false := by intro _ _; rfl)
    (he : ∀ env, eval (.Call (.Attribute o name apos) args [] pos) env = (do
      let ov ← eval o env
      standAt apos.atName
      let (f, first) ← holding [ov] (getMethod ov name (pl env))
      callWith pos f first (backTo pos (starEach args env)) (backToKw pos (keywordEach [] env))) := by intro _; rfl) : EV prog w hk H n F look (.Call (.Attribute o name apos) args [] pos) r := fun A s L env ok p => by
  refine call_method (pl := pl env) (h.use ok p fun ov s₁ q₁ i₁ p₁ => wpAny_mono (m A s₁ _ ov (pl env) ok p₁.inv p₁.led i₁) (fun fx s₂ h₂ => ?_) fun _ _ f => f.elim) (he env)
  obtain ⟨rfl, id, hid, hc⟩ := h₂
  refine callWith_any (evalArgs_any (hp pos env) rfl (ha.use ok p₁ fun vs s₃ q₃ i₃ p₃ => ?_))
  refine wpAny_mono (EK.nil.2 A s₃ _ env pos ok p₃) (fun kvs s₄ h₄ => ?_) fun _ _ f => f
  obtain ⟨q₄, i₄⟩ := h₄
  obtain rfl := i₄.none0
  have p₄ := p₃.pure q₄
  rw [hid] at hc ⊢
  refine wpAny_mono ((KP.blt (hk := hk)) A s₄ _ _ p₄.inv p₄.led (.val _)) (fun _ s₅ e => ?_) fun _ _ f => f.elim
  subst e
  refine wpAny_mono (hc s₅ _ vs p₄.inv p₄.led (i₁.mono fun _ _ e => .inl (.inl e)) (i₃.mono fun _ _ => .inl)) (fun _ _ e => ?_) fun _ _ f => f
  exact Post.step q₁ (Post.step q₃ (Post.step q₄ e))
/-- an own row takes one more -/
theorem EX.append {x : Str} {px apos cpos pos : Pos} {e : Expr} {d : PD} {D : Addr} {xs : List PD} {rest : List Stmt} {pl : Env → Sem Bool} (hx : look x = some (.val (.ref D))) (h : EV prog w hk H n F look e d) (hz : xs.length ≤ sizeLine := by decide)
    (hrest : EX prog w hk H n F wc look ((D, .lst (xs ++ [d])) :: own) rest G)
    (hs : ∀ env, swapsWith (.Call (.Attribute (.Name x px) "append" apos) [e] [] cpos) none pos.line env = pure false := by intro _; rfl) (hp : ∀ pos env, (backTo pos (starEach [e] env)).any (·.1) = false := by intro _ _; rfl)
    (he' : ∀ env, starEach [e] env = (false, eval e env) :: starEach [] env := by intro _; rfl) (hi : ∀ env : Env, env.scope.kind = .function → interactive env = false := by intro env h; unfold interactive; rw [h]; rfl)
    (he : ∀ env, eval (.Call (.Attribute (.Name x px) "append" apos) [e] [] cpos) env = (do
      let ov ← eval (.Name x px) env
      standAt apos.atName
      let (f, first) ← holding [ov] (getMethod ov "append" (pl env))
      callWith cpos f first (backTo cpos (starEach [e] env)) (backToKw cpos (keywordEach [] env))) := by intro _; rfl) (hdb : (x == ("__debug__" : Str)) = false := by rfl) :
    EX prog w hk H n F wc look ((D, .lst xs) :: own) (.Expr (.Call (.Attribute (.Name x px) "append" apos) [e] [] cpos) pos :: rest) G := fun A B s L env ok st => by
  refine wpAny_execs_cons (wpAny_Expr_any (call_method (pl := pl env) ((EV.name (prog := prog) (n := n) hx hdb).use ok st.pre fun o s₁ q₁ i₁ p₁ => ?_) (he env)) (hi env (by rw [st.pre.scope]; exact st.pre.kind)) (hs env))
  cases i₁
  have st₁ := st.step q₁
  obtain ⟨⟨vs, nn, hD, iA⟩, _⟩ := st₁.ownAt _ (.head _)
  refine getMethod_list_append hD rfl rfl ?_
  refine callWith_any (evalArgs_any (hp cpos env) rfl ((ES.cons h .nil he').use ok st₁.pre fun us s₃ q₃ i₃ p₃ => ?_))
  obtain ⟨u, rfl, iu⟩ := i₃.one1
  have st₃ := st₁.step q₃
  refine wpAny_mono (EK.nil.2 A s₃ _ env cpos ok st₃.pre) (fun kvs s₄ h₄ => ?_) fun _ _ f => f.elim
  obtain ⟨q₄, i₄⟩ := h₄
  obtain rfl := i₄.none0
  have st₄ := st₃.step q₄
  refine wpAny_mono ((KP.blt (hk := hk)) A s₄ _ _ st₄.pre.inv st₄.pre.led (.val _)) (fun _ s₅ e => ?_) fun _ _ f => f.elim
  subst e
  obtain ⟨⟨vs', nn', hD', iA'⟩, _⟩ := st₄.ownAt _ (.head _)
  show wpAny _ _ (call (.builtin "list.append") [.ref D, u]) _ _ _
  refine wpAny_list_append_plain (hsz := by rw [← Array.length_toList, iA'.length]; exact hz) ⟨nn', hD'⟩ fun h' hl' hs' => ?_
  obtain ⟨n'', hl''⟩ := hl'
  have iu' := iu.mono (M := _) fun a o e => (Or.inl e : ((_ : Led).or (Fresh H s₃.heap s₅.heap)) a o)
  exact hrest A B _ _ env ok (st₄.own1 (tk := s₅.toks) hs' ⟨vs'.push u, n'', hl'', by rw [Array.toList_push]; exact iA'.append (.cons iu' .nil)⟩)
end
end Mine
end

section -- B20
open PySem PySem.Calls PySem.W PyProof.Rows PySem.SeqAt PySem.MeetsSeq
set_option maxRecDepth 100000
set_option linter.unusedVariables false
namespace Mine
def TURND (prog : Program) (w : World) (H : Heap) (n : Nat) (F : Fm) (look : Look) (ifs : List Expr) (kx vx : Expr) : Option (PD × PD) → Prop
  | some p => ETS prog w (hkW w) H n F look ifs true ∧ EV prog w (hkW w) H n F look kx p.1 ∧ EV prog w (hkW w) H n F look vx p.2
  | .none => ETS prog w (hkW w) H n F look ifs false
section
variable {prog : Program} {w : World} {H : Heap} {n : Nat} {F : Fm} {wc : List Str} {look : Look} {own own' : Own} {A : Around} {B : Bs} {s s' : Shared} {L L' L₂ Lw : Led} {env : Env} {t : Expr} {items : List Item} {W : Wk} {G : Goal}
theorem comp_dict_loop {R : Result → Shared → Prop} {kx vx iter : Expr} {ifs : List Expr} {scope : Scope} {pos : Pos} {f : Item → Look → Look} {g : Item → Option (PD × PD)} {D : Addr} (wk : WkOk prog w (hkW w) t W items Lw) (ok : Ok n A) (hn : 1 ≤ n) (hsz : items.length ≤ sizeLine)
    (tg : ∀ x ∈ items, TGI prog w (hkW w) H F [] t x (f x)) (hf : ∀ x ∈ items, ∀ y d, look y = some d → f x look y = some d)
    (hb : ∀ x ∈ items, TURND prog w H n F (f x look) ifs kx vx (g x)) (hkey : ∀ (i : Nat) x k d, items[i]? = some x → g x = some (k, d) → KeyAt ((items.take i).filterMap g) k .none)
    (ls0 : LS (hkW w) H W Lw B F [] env look [(D, .dct [])] L 0 s)
    (hR : ∀ L' s', St (hkW w) H B F [] env look [(D, .dct (items.filterMap g))] L' s' → R (.ok .next) s') :
    codeAny (model prog w) A (.compLoop (.DictComp kx vx [⟨t, iter, ifs, 0⟩] scope pos) 0 (.ref W.I) (.ref D) env) R s := by
  refine compLoop_dict (fun k s' => ∃ i L', LS (hkW w) H W Lw B F [] env look [(D, .dct ((items.take i).filterMap g))] L' i s' ∧ i ≤ items.length ∧ k = items.length + 1 - i) ?_ (items.length + 1) ⟨0, L, by simpa using ls0, Nat.zero_le _, rfl⟩
  rintro k s' ⟨i, L', ls, hi, rfl⟩
  by_cases hlt : i < items.length
  · refine ls.item wk ok.handled (x := items[i]) (List.getElem?_eq_getElem hlt) fun v s₃ hgo => hgo _ _ fun s₄ ls₄ iv => ?_
    have it : items[i]? = some items[i] := List.getElem?_eq_getElem hlt
    refine tg items[i] (List.getElem_mem _) A _ s₄ L' env look _ v _ _ ok.handled ls₄.st.rebase iv fun s₅ L₅ _ st₅ => ?_
    have step : (items.take (i + 1)).filterMap g = (items.take i).filterMap g ++ (g items[i]).toList := by
      rw [List.take_add_one, it, List.filterMap_append]
      cases hg : g items[i] <;> simp [hg]
    have turn := hb items[i] (List.getElem_mem _)
    have next : ∀ L'' s₇, St (hkW w) H (St.there [(D, .dct ((items.take i).filterMap g))] [] F env L' s₄) F [] env (f items[i] look) [(D, .dct ((items.take (i + 1)).filterMap g))] L'' s₇ → ∃ m, m < items.length + 1 - i ∧ ∃ i L', LS (hkW w) H W Lw B F [] env look [(D, .dct ((items.take i).filterMap g))] L' i s₇ ∧ i ≤ items.length ∧ m = items.length + 1 - i := fun L'' s₇ st' =>
      ⟨items.length + 1 - (i + 1), by omega, i + 1, L'', ls₄.back wk (st'.less (hf _ (List.getElem_mem _))) rfl, hlt, rfl⟩
    cases hg : g items[i] with
    | none =>
      rw [hg] at turn step
      refine wpAny_mono (turn A s₅ L₅ env ok st₅.pre) (fun b s₆ e => ?_) fun _ _ f => f.elim
      obtain ⟨rfl, q⟩ := e
      rw [if_neg (by decide)]
      exact next _ s₆ (by rw [step]; simpa using st₅.step q)
    | some p =>
      obtain ⟨k, d⟩ := p
      rw [hg] at turn step
      obtain ⟨t1, t2, t3⟩ := turn
      refine wpAny_mono (t1 A s₅ L₅ env ok st₅.pre) (fun b s₆ e => ?_) fun _ _ f => f.elim
      obtain ⟨rfl, q⟩ := e
      rw [if_pos rfl]
      have st₆ := st₅.step q
      refine t2.use ok st₆.pre fun kv s₇ q₇ ik p₇ => ?_
      have st₇ := st₆.step q₇
      refine t3.use ok st₇.pre fun vv s₈ q₈ iv₈ p₈ => ?_
      have st₈ := st₇.step q₈
      obtain ⟨⟨ds, ep, hD, ies⟩, _, nl, _⟩ := st₈.ownAt _ (.head _)
      refine set_pd st₈.pre.led ok.unit hD ies (ik.mono fun _ _ => .inl) iv₈ (hkey i _ k d it hg) (Nat.le_trans (List.length_filterMap_le _ _) (Nat.le_trans (by rw [List.length_take]; exact Nat.min_le_right _ _) hsz)) nl fun h' tk hs' ho => ?_
      exact next _ _ (by rw [step]; exact st₈.own1 hs' ho)
  · have hin : i = items.length := by omega
    subst hin
    rw [List.take_length] at ls
    exact ls.done wk ok.handled rfl fun s₃ st₃ => hR L' s₃ st₃
theorem eval_dictComp {kx vx iter : Expr} {ifs : List Expr} {scope : Scope} {pos : Pos} : eval (.DictComp kx vx [⟨t, iter, ifs, 0⟩] scope pos) env = comprehension (.DictComp kx vx [⟨t, iter, ifs, 0⟩] scope pos) scope env iter.pos newDict false (eval iter env) := by
  rw [arm_eval_DictComp]; rfl
theorem EV.dictComp {kx vx iter : Expr} {ifs : List Expr} {scope : Scope} {pos : Pos} {f : Item → Look → Look} {g : Item → Option (PD × PD)} (hn : 1 ≤ n)
    (hit : IT prog w (hkW w) H n F look iter t items) (hsz : items.length ≤ sizeLine) (hsc : ScOk F scope)
    (tg : ∀ x ∈ items, TGI prog w (hkW w) H (F.comp scope) [] t x (f x)) (hf : ∀ x ∈ items, ∀ y d, compLook F scope look y = some d → f x (compLook F scope look) y = some d)
    (hb : ∀ x ∈ items, TURND prog w H n (F.comp scope) (f x (compLook F scope look)) ifs kx vx (g x)) (hkey : ∀ (i : Nat) x k d, items[i]? = some x → g x = some (k, d) → KeyAt ((items.take i).filterMap g) k .none)
    (hs : ∀ env x, foldedSetIterable iter env x = pure x := by intro _ _; rfl) :
    EV prog w (hkW w) H n F look (.DictComp kx vx [⟨t, iter, ifs, 0⟩] scope pos) (.dict (items.filterMap g)) := fun A s L env ok p => by
  rw [eval_dictComp]
  have hclos : closureFor scope env = pure (closFrom env.cells scope.names []) := closureFor_eq fun y hy e => p.has y.1 (hsc.free y hy e)
  refine wpAny_comprehension_free (use := Option.none) (g := ⟨t, iter, ifs, 0⟩) (gs := []) rfl (hs env) hclos hsc.kind hsc.names (wpAny_mono (hit A s L env ok p) (fun x s₁ h₁ => wpAny_mono h₁ (fun it s₂ h₂ => ?_) fun _ _ f => f.elim) fun _ _ f => f.elim)
  obtain ⟨W, L₂, rfl, wk, q, sub, ho, hb₂, hS, hwr⟩ := h₂
  have K := wk.turns A ok.handled
  unfold newDict
  refine wpAny_newObj_type (wpAny_newFunctionEnv hsc.cell (by intro y hy; simp at hy) (fun h₁ hns₁ hsb₁ => ?_) hsc.kind)
  have p₂ : Pre (hkW w) H F env look L₂ s₂ := { p.pure q with led := ho, view := fun x d e => let ⟨v, r, i⟩ := p.view x d e; ⟨v, r.keep q.keep, i.mono sub⟩ }
  have ow₂ : Ow (hkW w) H ⟨s, L, fun _ => False⟩ [] L₂ s₂ := .pure0 p.inv q sub ho hb₂
  have cell0 : ∀ y, scope.names.lookup y ≠ some .cell := fun y e => hsc.cell _ (mem_of_lookup e) rfl
  have st := compFrame (tk := s₂.toks + ([] : List (Str × Value)).length) (scope := scope) (x0 := .dct []) (h' := h₁) p₂ ow₂ cell0 hsc.kind hsc.free rfl (fun h e => ⟨_, _, e, .nil⟩) (fun _ h => (nomatch h)) hns₁ hsb₁
  have size1 : (s₂.heap.push ({ cls := .type "dict", data := .dict #[] } : Obj)).objs.size = s₂.heap.objs.size + 1 := Heap.size_push ..
  have hlt : ∀ b ∈ W.fp, b < s₂.heap.objs.size := fun b hb => let ⟨o, e⟩ := wk.here _ _ hS b hb; Heap.lt_size e
  have nD : s₂.heap.objs.size ∉ W.fp := fun h => Nat.lt_irrefl _ (hlt _ h)
  have nC : (s₂.heap.push ({ cls := .type "dict", data := .dict #[] } : Obj)).objs.size ∉ W.fp := fun h => by have := hlt _ h; rw [size1] at this; exact Nat.lt_irrefl _ (Nat.lt_of_succ_lt this)
  have old : ∀ b o, s₂.heap.get? b = some o → h₁.get? b = some o := fun b o e =>
    (hsb₁.2 b (by rw [size1]; exact Nat.ne_of_lt (Nat.lt_succ_of_lt (Heap.lt_size e)))).trans (Heap.get?_push_of_some _ (Heap.get?_push_of_some _ e))
  have hS₁ : W.S 0 h₁ := K.frame _ _ _ hS fun b _ o e => old b o e
  have sub' := closFrom_sub env.cells scope.names [] (fun _ _ e => (nomatch e)) fun z hz e => p.has z.1 (hsc.free z hz e)
  have ls0 : LS (hkW w) H W L₂ ⟨s, L, fun _ => False⟩ (F.comp scope) [] (compEnvC scope (closFrom env.cells scope.names []) (s₂.heap.push ({ cls := .type "dict", data := .dict #[] } : Obj)).objs.size env) (compLook F scope look) [(s₂.heap.objs.size, .dct [])] L₂ 0
      { s₂ with heap := h₁, toks := s₂.toks + ([] : List (Str × Value)).length } := ⟨st, hS₁, wk.apart, fun _ _ => id, fun pr hp => (List.mem_singleton.mp hp) ▸ nD, nC, fun x c e hm => ?_, fun x c h0 => (nomatch h0), fun b hb => hwr b hb⟩
  · have nCs : s.heap.get? (s₂.heap.push ({ cls := .type "dict", data := .dict #[] } : Obj)).objs.size = .none := q.keep.none (by
      cases z : s₂.heap.get? (s₂.heap.push ({ cls := .type "dict", data := .dict #[] } : Obj)).objs.size with
      | none => rfl
      | some o => exact absurd (Heap.lt_size z) (by rw [size1]; exact Nat.not_lt.mpr (Nat.le_succ _)))
    have done : codeAny (model prog w) A (.compLoop (.DictComp kx vx [⟨t, iter, ifs, 0⟩] scope pos) 0 (.ref W.I) (.ref s₂.heap.objs.size) (compEnvC scope (closFrom env.cells scope.names []) (s₂.heap.push ({ cls := .type "dict", data := .dict #[] } : Obj)).objs.size env))
        (compPost (model prog w) A (fun _ _ => False) Option.none (Post (hkW w) H L s (.dict (items.filterMap g))) (.ref s₂.heap.objs.size) (s₂.heap.push ({ cls := .type "dict", data := .dict #[] } : Obj)).objs.size) { s₂ with heap := h₁, toks := s₂.toks + ([] : List (Str × Value)).length } := by
      refine comp_dict_loop wk ok hn hsz tg hf hb hkey ls0 fun L' s' st' => ?_
      obtain ⟨L'', st'', i'', sub'', src''⟩ := st'.freeze
      obtain ⟨m, hm⟩ := st''.loc.2.2
      exact ⟨m, hm, fun h' hs' => ⟨(st''.ow.pure.pure fun _ e => e.elim).tail p.inv nCs ⟨m, hm⟩ hs', st''.ow.frozen i'' st''.loc.2.1 hs'⟩⟩
    exact codeAny_compStart_dict done (wk.self A 0 _ _ _ ok.handled hS₁ done)
  · obtain ⟨o, e'⟩ := p.cthere x c (sub' x c e)
    rw [hwr c hm] at e'; cases e'
end
end Mine
end

section -- B21
open PySem PySem.Calls PySem.W PyProof.Rows PySem.SeqAt PySem.MeetsSeq
set_option maxRecDepth 100000
set_option linter.unusedVariables false
namespace Mine
section
variable {prog : Program} {w : World} {A : Around} {E : Value → Shared → Prop} {s : Shared}
theorem items_iter {v d : Addr} {od : Obj} {es : Array DictEntry} {ep : Nat} {Q : Value → Shared → Prop} (hv : s.heap.IsItemsView v d) (hod : s.heap.get? d = some od) (hdat : od.data = .dict es ep) (hz : es.size ≤ sizeLine)
    (hQ : Q (.ref s.heap.objs.size) { s with heap := s.heap.push { cls := .type "dict_itemiterator", data := .fields #[.none, .bool false, .ref d, .int 0 0, .int es.size 0, .int ep 0, .none, .none] } }) :
    wpAny (model prog w) A (pyIter (.ref v)) Q E s := by
  obtain ⟨ov, hov, hcv, hdv⟩ := id hv
  refine wpAny_pyIter_slot hv.typeIs F.slot_dict_items_iter (wpAny_call_entry F.slot_dict_items_iter hv.typeIs F.entry_dict_items_iter ?_ (F.args_dict_items_iter_1 _))
  unfold Builtin.«dict_items.__iter__»
  refine wpAny_bind (wpAny_pure ?_)
  refine wpAny_bind ?_
  unfold Builtin.Dict_items.dictOf
  refine wpAny_bind (wpAny_field hov hdv (x := .ref d) rfl (wpAny_pure ?_))
  refine wpAny_bind ?_
  unfold Builtin.Dict_items.newIterator
  refine wpAny_bind (wpAny_dictEntries hod hdat ?_)
  refine wpAny_bind (wpAny_dictEpoch hod hdat ?_)
  have hown : Builtin.Dict_items.ownsTuple "dict_itemiterator" = true := by decide
  simp only [hown, if_true]
  refine wpAny_newObj_type (wpAny_pure ⟨_, rfl, "dict_itemiterator", _, ⟨_, Heap.get?_push_size _ rfl, rfl⟩, F.slot_dict_itemiterator_next.lookup, ?_⟩)
    (by simp only [sizeOk, Builtin.Dict_items.ownedTupleFields, List.size_toArray, List.length_append, List.length_cons, List.length_nil, sizeLine_eq]; omega)
  simpa [rawInt, Builtin.Dict_items.ownedTupleFields] using hQ

theorem items_item {it d : Addr} {i ep : Nat} {od : Obj} {es : Array DictEntry} {ok ov : Value} {Q : Option Value → Shared → Prop} (hit : IsItemIter s.heap it d i es.size ep ok ov)
    (hod : s.heap.get? d = some od) (hdd : od.data = .dict es ep) (hlt' : i < es.size)
    (hQ : ∀ h', IsItemIterOut h' it d (i + 1) es.size ep es[i].key es[i].val s.heap.objs.size →
      h'.get? s.heap.objs.size = some { cls := .type "tuple", data := .seq #[es[i].key, es[i].val] } → h'.objs.size = s.heap.objs.size + 1 →
      (∀ b o, b ≠ it → s.heap.get? b = some o → h'.get? b = some o) → Q (some (.ref s.heap.objs.size)) { s with heap := h' }) :
    wpAny (model prog w) A (pyNext (.ref it)) Q E s := by
  obtain ⟨hp, g, dr, tk, os⟩ := s
  have hT : Shared.TypeIs ⟨hp, g, dr, tk, os⟩ (.ref it) "dict_itemiterator" := ⟨_, hit, rfl⟩
  unfold pyNext
  refine wpAny_bind (wpAny_attempt (wpAny_callSpecial?_slot (name := Str.ofString "__next__") hT F.slot_dict_itemiterator_next
    (wpAny_call_entry F.slot_dict_itemiterator_next hT F.entry_dict_itemiterator_next ?_ (F.args_dict_itemiterator_next_1 _))))
  refine wpAny_bind (wpAny_pure ?_)
  refine wpAny_bind ?_
  refine wpAny_bind ?_
  first | refine wpAny_bind (wpAny_typeNameOfWhole_itemiter hT (wpAny_pure ?_)) | refine wpAny_bind (wpAny_typeNameOf_itemiter hT (wpAny_pure ?_))
  refine wpAny_bind (wpAny_fieldsOf hit rfl ?_)
  have hown : Builtin.Dict_items.ownsTuple "dict_itemiterator" = true := by decide
  simp only [hown, if_true]
  show wpAny _ _ (if (Value.ref d == Value.none) = true then _ else _) _ _ _
  rw [if_neg (show ¬ ((Value.ref d == Value.none) = true) from Bool.false_ne_true)]
  refine wpAny_bind (wpAny_pure ?_)
  refine wpAny_bind (wpAny_dictEntries hod hdd ?_)
  rw [if_neg (by simp)]
  refine wpAny_bind (wpAny_pure ?_)
  refine wpAny_bind (wpAny_dictEpoch hod hdd ?_)
  rw [if_neg (by simp)]
  refine wpAny_pure ?_
  simp only [show ¬ ((i : Int) < 0) from by omega, if_false, Int.toNat_natCast, Array.getElem?_eq_getElem hlt']
  refine wpAny_bind ?_
  first | refine wpAny_bind (wpAny_typeNameOfWhole_itemiter hT (wpAny_pure ?_)) | refine wpAny_bind (wpAny_typeNameOf_itemiter hT (wpAny_pure ?_))
  refine wpAny_bind (wpAny_isOneOf_itemiter hT ?_)
  show wpAny _ _ (setField (.ref it) 3 (rawInt ((i : Int) + 1)) >>= _) _ _ ⟨hp, g, dr, tk, os⟩
  refine wpAny_bind (wpAny_setField_rec hit (by simp) fun h₁ he₁ hs₁ => ?_)
  replace hs₁ : Heap.SameBut it hp h₁ := hs₁
  replace he₁ : IsItemIter h₁ it d (i + 1) es.size ep ok ov := by
    have e : ((i + 1 : Nat) : Int) = (i : Int) + 1 := by omega
    unfold IsItemIter; rw [e]; simpa [rawInt] using he₁
  have hT₁ : Shared.TypeIs ⟨h₁, g, dr, tk, os⟩ (.ref it) "dict_itemiterator" := ⟨_, he₁, rfl⟩
  refine wpAny_bind (wpAny_holding ?_)
  refine wpAny_bind (wpAny_isOneOf_itemiter hT₁ ?_)
  refine wpAny_bind (wpAny_isOneOf_itemiter hT₁ ?_)
  show wpAny _ _ (Builtin.Dict_items.pairFromOwner (.ref it) 6 es[i].key es[i].val) _ _ ⟨h₁, g, dr, tk, os⟩
  unfold Builtin.Dict_items.pairFromOwner
  refine wpAny_bind (wpAny_newTuple ?_)
  have he₂ : IsItemIter (h₁.push { cls := .type "tuple", data := .seq #[es[i].key, es[i].val] }) it d (i + 1) es.size ep ok ov := Heap.get?_push_of_some _ he₁
  generalize hh₂ : h₁.push { cls := .type "tuple", data := .seq #[es[i].key, es[i].val] } = h₂ at he₂
  have hz₁ : h₁.objs.size = hp.objs.size := hs₁.1
  have hil : it < hp.objs.size := Heap.lt_size hit
  have ht₂ : h₂.get? hp.objs.size = some { cls := .type "tuple", data := .seq #[es[i].key, es[i].val] } := by rw [← hh₂, ← hz₁]; exact Heap.get?_push_size _ rfl
  have hz₂ : h₂.objs.size = hp.objs.size + 1 := by rw [← hh₂, Heap.size_push, hz₁]
  have hk₂ : ∀ b o, b ≠ it → hp.get? b = some o → h₂.get? b = some o := fun b o hb e => by rw [← hh₂]; exact Heap.get?_push_of_some _ (hs₁.extBut b o hb e)
  show wpAny _ _ (Builtin.Dict_items.ownedTupleIsFree (.ref it) >>= _) _ _ ⟨h₂, g, dr, tk, os⟩
  rw [hz₁]
  clear hh₂ he₁ hs₁ hT₁ hz₁ h₁
  refine wpAny_bind ?_
  unfold Builtin.Dict_items.ownedTupleIsFree
  refine wpAny_bind (wpAny_field he₂ rfl (x := .none) rfl (wpAny_pure ?_))
  simp only [if_true]
  refine wpAny_bind (wpAny_field he₂ rfl (x := ok) rfl ?_)
  refine wpAny_bind (wpAny_field he₂ rfl (x := ov) rfl ?_)
  refine wpAny_bind (wpAny_setField_rec he₂ (by simp) fun h₃ he₃ hs₃ => ?_)
  replace hs₃ : Heap.SameBut it h₂ h₃ := hs₃
  replace he₃ : IsItemIter h₃ it d (i + 1) es.size ep es[i].key ov := he₃
  refine wpAny_bind (wpAny_setField_rec he₃ (by simp) fun h₄ he₄ hs₄ => ?_)
  replace hs₄ : Heap.SameBut it h₃ h₄ := hs₄
  replace he₄ : IsItemIter h₄ it d (i + 1) es.size ep es[i].key es[i].val := he₄
  refine wpAny_bind (wpAny_setField_rec he₄ (by simp) fun h₅ he₅ hs₅ => ?_)
  replace hs₅ : Heap.SameBut it h₄ h₅ := hs₅
  replace he₅ : IsItemIterOut h₅ it d (i + 1) es.size ep es[i].key es[i].val hp.objs.size := he₅
  refine wpAny_bind (wpAny_setField_rec he₅ (by simp) fun h₆ he₆ hs₆ => ?_)
  replace hs₆ : Heap.SameBut it h₅ h₆ := hs₆
  replace he₆ : IsItemIterOut h₆ it d (i + 1) es.size ep es[i].key es[i].val hp.objs.size := he₆
  refine wpAny_bind (wpAny_letGo (wpAny_pure (wpAny_pure ⟨_, rfl, wpAny_pure (hQ h₆ he₆ ?_ ?_ ?_)⟩)))
  · exact hs₆.extBut _ _ (Nat.ne_of_gt hil) (hs₅.extBut _ _ (Nat.ne_of_gt hil) (hs₄.extBut _ _ (Nat.ne_of_gt hil) (hs₃.extBut _ _ (Nat.ne_of_gt hil) ht₂)))
  · show h₆.objs.size = hp.objs.size + 1
    rw [hs₆.1, hs₅.1, hs₄.1, hs₃.1, hz₂]
  · exact fun b o hb e => hs₆.extBut b o hb (hs₅.extBut b o hb (hs₄.extBut b o hb (hs₃.extBut b o hb (hk₂ b o hb e))))

theorem items_end {it d : Addr} {i ep : Nat} {od : Obj} {es : Array DictEntry} {ok ov : Value} {Q : Option Value → Shared → Prop} (hh : A.handled = none) (hit : IsItemIter s.heap it d i es.size ep ok ov)
    (hod : s.heap.get? d = some od) (hdd : od.data = .dict es ep) (hge : es.size ≤ i)
    (hQ : ∀ h', Heap.ExtBut it s.heap h' → Q none { s with heap := h' }) : wpAny (model prog w) A (pyNext (.ref it)) Q E s := by
  have hT : s.TypeIs (.ref it) "dict_itemiterator" := ⟨_, hit, rfl⟩
  unfold pyNext
  refine wpAny_bind (wpAny_attempt (wpAny_callSpecial?_slot (name := Str.ofString "__next__") hT F.slot_dict_itemiterator_next
    (wpAny_call_entry F.slot_dict_itemiterator_next hT F.entry_dict_itemiterator_next ?_ (F.args_dict_itemiterator_next_1 _))))
  refine wpAny_bind (wpAny_pure ?_)
  refine wpAny_bind ?_
  refine wpAny_bind ?_
  first | refine wpAny_bind (wpAny_typeNameOfWhole_itemiter hT (wpAny_pure ?_)) | refine wpAny_bind (wpAny_typeNameOf_itemiter hT (wpAny_pure ?_))
  refine wpAny_bind (wpAny_fieldsOf hit rfl ?_)
  have hown : Builtin.Dict_items.ownsTuple "dict_itemiterator" = true := by decide
  simp only [hown, if_true]
  show wpAny _ _ (if (Value.ref d == Value.none) = true then _ else _) _ _ s
  rw [if_neg (show ¬ ((Value.ref d == Value.none) = true) from Bool.false_ne_true)]
  refine wpAny_bind (wpAny_pure ?_)
  refine wpAny_bind (wpAny_dictEntries hod hdd ?_)
  rw [if_neg (by simp)]
  refine wpAny_bind (wpAny_pure ?_)
  refine wpAny_bind (wpAny_dictEpoch hod hdd ?_)
  rw [if_neg (by simp)]
  refine wpAny_pure ?_
  simp only [show ¬ ((i : Int) < 0) from by omega, if_false, Int.toNat_natCast, Array.getElem?_eq_none hge]
  refine wpAny_bind ?_
  first | refine wpAny_bind (wpAny_typeNameOfWhole_itemiter hT (wpAny_pure ?_)) | refine wpAny_bind (wpAny_typeNameOf_itemiter hT (wpAny_pure ?_))
  show wpAny _ _ (setField (.ref it) 2 .none >>= _) _ _ s
  refine wpAny_bind (wpAny_setField hit rfl (by simp) ?_)
  show wpAny _ _ (newExc (.type "StopIteration") [] >>= _) _ _ _
  refine wpAny_bind ?_
  simp only [newExc, newTuple]
  refine wpAny_bind (wpAny_newObj_type ?_ (by size_fits))
  refine wpAny_bind (m := firstArgMember _ _) (wpAny_of_eq (a := Value.none) (by first | rfl | (simp only [firstArgMember]; rfl)) ?_)
  refine wpAny_newObj_type ?_ (by size_fits)
  simp only [raiseNew]
  refine wpAny_bind (wpAny_handled ?_)
  rw [show A.in1.handled = none from hh]
  refine wpAny_bind (wpAny_pure (wpAny_throw ?_))
  refine wpAny_bind (wpAny_isInstance (T := "StopIteration") (b := true) ⟨_, Heap.get?_push_size _ rfl, rfl⟩ isSubtype_stop ?_)
  exact wpAny_pure (hQ _ (((Heap.SameBut.update ..).extBut.push _).push _))
end
end Mine
end

section -- B22
open PySem PySem.Calls PySem.W PyProof.Rows PySem.SeqAt PySem.MeetsSeq
set_option maxRecDepth 100000
set_option linter.unusedVariables false
namespace Mine
theorem itemiter_entry : entryFor table "dict_itemiterator.__iter__" = some Builtin.«dict_keyiterator.__iter__» :=
  entryFor_alias (id' := "dict_keyiterator.__iter__") (by kernel_rfl) rfl (by decide +kernel) (by kernel_rfl)
section
variable {prog : Program} {w : World} {H : Heap} {hk : PD → Int} {n : Nat} {F : Fm} {look : Look} {A : Around} {s s' : Shared} {L L' : Led} {env : Env} {E : Value → Shared → Prop}
theorem items_self {it d : Addr} {i n ep : Nat} {ok ov : Value} {Q : Value → Shared → Prop} (hit : IsItemIter s.heap it d i n ep ok ov) (h : Q (.ref it) s) : wpAny (model prog w) A (pyIter (.ref it)) Q E s := by
  have hT : s.TypeIs (.ref it) "dict_itemiterator" := ⟨_, hit, rfl⟩
  refine wpAny_pyIter_slot hT PySem.F.slot_dict_itemiterator_iter (wpAny_call_entry PySem.F.slot_dict_itemiterator_iter hT itemiter_entry ?_ (PySem.F.args_dict_itemiterator_iter_1 _))
  show wpAny _ _ (ret (.ref it)) _ _ s
  exact wpAny_pure ⟨_, rfl, "dict_itemiterator", _, hT, PySem.F.slot_dict_itemiterator_next.lookup, h⟩
theorem noRec_iiter {h : Heap} {it d : Addr} {i n ep : Nat} {ok ov : Value} (x : IsItemIter h it d i n ep ok ov) : ∀ o y, h.get? it = some o → ¬ RecAt o y := fun o y e ⟨vs, t, e1, e2⟩ => by
  unfold IsItemIter at x
  rw [e] at x; cases x; cases e1; cases e2
theorem noRec_iiterO {h : Heap} {it d : Addr} {i n ep : Nat} {ok ov : Value} {T : Addr} (x : IsItemIterOut h it d i n ep ok ov T) : ∀ o y, h.get? it = some o → ¬ RecAt o y := fun o y e ⟨vs, t, e1, e2⟩ => by
  unfold IsItemIterOut at x
  rw [e] at x; cases x; cases e1; cases e2
theorem items_turns {elts : List Expr} {kk : Nat} {pos : Pos} (hh : A.handled = none) (I d : Addr) (hne : d ≠ I) (od : Obj) (es : Array DictEntry) (ep : Nat) (hdd : od.data = .dict es ep) :
    KTurns prog w A (.Tuple elts kk pos) I [I, d] [I] es.size
      (fun i v h => ∃ T e, v = .ref T ∧ es[i]? = some e ∧ h.IsTuple T #[e.key, e.val])
      (fun i v h => ∃ T e ok ov, v = .ref T ∧ es[i]? = some e ∧ h.IsTuple T #[e.key, e.val] ∧ IsItemIterOut h I d (i + 1) es.size ep ok ov T ∧ h.get? d = some od ∧ T ≠ I)
      (fun i h => (∃ ok ov, IsItemIter h I d i es.size ep ok ov) ∧ h.get? d = some od) where
  sub := fun b hb => by simp at hb; simp [hb]
  frame := fun i h h' st hk => by
    obtain ⟨⟨ok, ov, he⟩, hm⟩ := st
    exact ⟨⟨ok, ov, hk I (by simp) _ he⟩, hk d (by simp) _ hm⟩
  item := fun i s Q E hi st hQ => by
    obtain ⟨⟨ok, ov, he⟩, hm⟩ := st
    refine items_item he hm hdd hi fun h' ho hT hsz hk => ?_
    exact hQ (.ref s.heap.objs.size) h' s.toks ⟨s.heap.objs.size, es[i], _, _, rfl, Array.getElem?_eq_getElem hi, ⟨_, hT, rfl, _, rfl⟩, ho, hk d _ hne hm, Nat.ne_of_gt (Heap.lt_size he)⟩ fun b o hb e => hk b o (fun h => hb (by simp [h])) e
  go := fun i v s Q E hm hQ => by
    obtain ⟨T, e, ok, ov, rfl, hx, hT, ho, hd, hTI⟩ := hm
    refine wpAny_letOwnedTupleGo_items ho fun h' he hs => ?_
    exact hQ h' ⟨T, e, rfl, hx, hT.at fun o e => hs.extBut T o hTI e⟩ ⟨⟨ok, ov, he⟩, hs.extBut d _ hne hd⟩ fun b o hb e => hs.extBut b o (fun h => hb (by simp [h])) e
  done := fun s Q E st hQ => by
    obtain ⟨⟨ok, ov, he⟩, hm⟩ := st
    exact items_end hh he hm hdd (Nat.le_refl _) fun h' hx => hQ h' s.toks fun b o hb e => hx b o (fun h => hb (by simp [h])) e
/-- a call of dict.items -/
theorem call_items {d : Addr} {od : Obj} {es : Array DictEntry} {ep : Nat} {Q : Value → Shared → Prop} (hsys : (d == sysModules) = false) (ho : s.heap.get? d = some od) (hx : od.ExactDict) (hd : od.data = .dict es ep)
    (h : Q (.ref s.heap.objs.size) { s with heap := s.heap.push { cls := .type "dict_items", data := .fields #[.ref d] } }) : wpAny (model prog w) A (call (.builtin "dict.items") [.ref d]) Q E s := by
  have hT : s.TypeIs (.ref d) "dict" := ⟨_, ho, hx.1⟩
  refine wpAny_call_entry PySem.F.slot_dict_items hT PySem.F.entry_dict_items ?_ (PySem.F.args_dict_items_1 _)
  unfold Builtin.«dict.items»
  refine wpAny_bind ?_
  unfold Builtin.Dict.noArgs
  refine wpAny_bind (wpAny_notOrdered_dict hT ?_)
  show wpAny _ _ (pure d) _ _ s
  refine wpAny_pure ?_
  show wpAny _ _ (Builtin.Dict.showsAll d >>= _) _ _ s
  unfold Builtin.Dict.showsAll
  rw [if_neg (by rw [hsys]; exact Bool.false_ne_true)]
  refine wpAny_bind (wpAny_pure ?_)
  exact wpAny_bind (wpAny_newObj_type (wpAny_pure ⟨_, rfl, h⟩))
theorem IT.items {o : Expr} {apos pos tpos : Pos} {elts : List Expr} {kk : Nat} {xs : List (PD × PD)} {pl : Env → Sem Bool} (h : EV prog w hk H n F look o (.dict xs)) (hz : xs.length ≤ sizeLine := by decide)
    (he : ∀ env, eval (.Call (.Attribute o "items" apos) [] [] pos) env = (do
      let ov ← eval o env
      standAt apos.atName
      let (f, first) ← holding [ov] (getMethod ov "items" (pl env))
      callWith pos f first (backTo pos (starEach [] env)) (backToKw pos (keywordEach [] env))) := by intro _; rfl) :
    IT prog w hk H n F look (.Call (.Attribute o "items" apos) [] [] pos) (.Tuple elts kk tpos) (xs.map fun p => .tup [p.1, p.2]) := fun A s L env ok p => by
  refine call_method (pl := pl env) (h.use ok p fun ov s₁ q₁ i₁ p₁ => ?_) (he env)
  cases i₁ with
  | @dict d od es ep _ h1 h2 h3 h4 =>
    have hod := (p₁.led _ _ h1).1
    have hsys := (p₁.led _ _ h1).2.2
    refine getMethod_builtin ⟨_, hod, h2.1⟩ PySem.F.plainAttrs_dict PySem.F.slot_dict_items PySem.F.type_dict_items (fun a e => by cases e; exact ⟨_, hod, h2.2.1⟩) ?_
    refine callWith_any (evalArgs_any rfl rfl (ES.nil.use ok p₁ fun vs s₂ q₂ i₂ p₂ => ?_))
    obtain rfl := i₂.none0
    refine wpAny_mono (EK.nil.2 A s₂ _ env pos ok p₂) (fun kvs s₃ h₃ => ?_) fun _ _ f => f.elim
    obtain ⟨q₃, i₃⟩ := h₃
    obtain rfl := i₃.none0
    have p₃ := p₂.pure q₃
    refine wpAny_mono ((KP.blt (hk := hk)) A s₃ _ _ p₃.inv p₃.led (.val _)) (fun _ s₄ e => ?_) fun _ _ f => f.elim
    subst e
    have q := (q₁.trans q₂).trans q₃
    have hod₄ : s₄.heap.get? d = some od := (p₃.led _ _ (.inl (.inl h1))).1
    show wpAny _ _ (call (.builtin "dict.items") [.ref d]) _ _ _
    refine call_items hsys hod₄ h2 h3 ?_
    have qv : Pure H s₄ { s₄ with heap := s₄.heap.push { cls := .type "dict_items", data := .fields #[.ref d] } } := .push p₃.inv _
    have hod₅ := qv.keep.keep d od hod₄ (p₃.led _ _ (.inl (.inl h1))).2.1
    have hsz : es.size = xs.length := by rw [← h4.length, Array.length_toList]
    refine items_iter ⟨_, Heap.get?_push_size _ rfl, rfl, rfl⟩ hod₅ h3 (by omega) ?_
    have qi := Pure.push (s := { s₄ with heap := s₄.heap.push { cls := .type "dict_items", data := .fields #[.ref d] } }) qv.inv ({ cls := .type "dict_itemiterator", data := .fields #[.none, .bool false, .ref d, .int 0 0, .int es.size 0, .int ep 0, .none, .none] } : Obj)
    have qq := (q.trans qv).trans qi
    have hod₆ := qi.keep.keep d od hod₅ (p₃.led _ _ (.inl (.inl h1))).2.1
    have nI : s.heap.get? (s₄.heap.push { cls := .type "dict_items", data := .fields #[.ref d] }).objs.size = none := (q.trans qv).keep.none (get_size _)
    have hne : d ≠ (s₄.heap.push { cls := .type "dict_items", data := .fields #[.ref d] }).objs.size := Nat.ne_of_lt (Heap.lt_size hod₅)
    refine ⟨⟨(s₄.heap.push { cls := .type "dict_items", data := .fields #[.ref d] }).objs.size, [(s₄.heap.push { cls := .type "dict_items", data := .fields #[.ref d] }).objs.size, d], [(s₄.heap.push { cls := .type "dict_items", data := .fields #[.ref d] }).objs.size], es.size, _, _, _⟩, L.or (Fresh H s.heap s₁.heap), rfl,
      ⟨fun A hh => items_turns hh _ d hne od es ep h3, by rw [List.length_map, hsz], fun i v h L' x sub hv hx => ?_, fun A i s Q E hh st hQ => ?_, fun i h st b hb => ?_, fun b hb => ?_, fun b hb o e => ?_, fun i h st b hb o x e => ?_, fun i v h st b hb o x e => ?_⟩, qq, fun _ _ => .inl, ?_, fun a o e => e.imp id And.left, ⟨⟨_, _, Heap.get?_push_size _ rfl⟩, hod₆⟩, fun b hb => by rw [List.mem_singleton.mp hb]; exact nI⟩
    · obtain ⟨T, e, rfl, he, hT⟩ := hv
      rw [List.getElem?_map] at hx
      obtain ⟨x', hx', rfl⟩ := Option.map_eq_some_iff.mp hx
      obtain ⟨y, hy, _, i1, i2⟩ := h4.get (by rw [Array.getElem?_toList]; exact he)
      rw [hx'] at hy; cases hy
      exact ⟨T, _, rfl, hT, .cons (i1.mono sub) (.cons (i2.mono sub) .nil)⟩
    · obtain ⟨⟨ok, ov, hi⟩, _⟩ := st
      exact items_self hi hQ
    · rcases List.mem_cons.mp hb with e | hb
      · obtain ⟨⟨ok, ov, hi⟩, _⟩ := st; exact ⟨_, e ▸ hi⟩
      · exact ⟨_, List.mem_singleton.mp hb ▸ st.2⟩
    · rcases List.mem_cons.mp hb with e | hb
      · exact .inl (by simp [e])
      · exact .inr ⟨od, List.mem_singleton.mp hb ▸ h1⟩
    · have e1 := (p₁.led _ _ e).1
      have e2 := (((q₂.trans q₃).trans qv).keep.keep _ _ e1 (p₁.led _ _ e).2.1)
      rw [List.mem_singleton.mp hb, get_size] at e2; cases e2
    · obtain ⟨⟨ok, ov, hi⟩, _⟩ := st
      rw [List.mem_singleton.mp hb] at e
      exact noRec_iiter hi o x e
    · obtain ⟨T, ee, ok, ov, _, _, _, hi, _⟩ := st
      rw [List.mem_singleton.mp hb] at e
      exact noRec_iiterO hi o x e
    · exact p₁.led.keep (((q₂.trans q₃).trans qv).trans qi).keep
end
end Mine
end

section -- B23
open PySem PySem.Calls PySem.W PyProof.Rows PySem.SeqAt PySem.MeetsSeq
set_option maxRecDepth 100000
set_option linter.unusedVariables false
namespace Mine
section
variable {prog : Program} {w : World} {H : Heap} {hk : PD → Int} {n : Nat} {F : Fm} {wc : List Str} {look : Look} {own : Own} {A : Around} {B : Bs} {s s' : Shared} {L L' Lw : Led} {env : Env} {E : Value → Shared → Prop} {t : Expr} {items : List Item} {W : Wk} {i : Nat}
theorem LS.item' {Q : Option Value → Shared → Prop} {E : Value → Shared → Prop} {x : Item} (ok : WkOk prog w hk t W items Lw) (hh : A.handled = none) (ls : LS hk H W Lw B F wc env look own L i s) (hi : items[i]? = some x)
    (k : ∀ v s₁, (∀ (Q' : Unit → Shared → Prop) (E' : Value → Shared → Prop), (∀ s₂, LS hk H W Lw B F wc env look own L (i + 1) s₂ → s₂.gens = s.gens → ItemIs hk L s₂.heap v x → Q' () s₂) → wpAny (model prog w) A (letOwnedTupleGo t (.ref W.I) v) Q' E' s₁) → Q (some v) s₁) :
    wpAny (model prog w) A (pyNext (.ref W.I)) Q E s := by
  have K := ok.turns A hh
  have hlt : i < W.n := by rw [ok.len]; exact (List.getElem?_eq_some_iff.mp hi).1
  refine K.item i s Q E hlt ls.at_ fun v h' tk hM hk' => k v _ fun Q' E' k' => ?_
  have st' := LS.keep (tk := tk) ls K (ok.nc.1 _ _ ls.at_) hk'
  refine K.go i v _ Q' E' hM fun h₂ hP hS hk₂ => k' _ ?_ rfl (ok.item i v h₂ L x ls.sub hP hi)
  exact ⟨st'.but ls.new ls.nl (fun p hp h => ls.ao p hp (K.sub _ h)) (fun h => ls.al (K.sub _ h)) ls.ac (ok.nc.2 _ _ _ hM) hk₂, hS, ls.nl, ls.sub, ls.ao, ls.al, ls.ac, ls.aw, ls.new⟩
theorem LS.done' {Q : Option Value → Shared → Prop} {E : Value → Shared → Prop} (ok : WkOk prog w hk t W items Lw) (hh : A.handled = none) (ls : LS hk H W Lw B F wc env look own L i s) (hi : i = items.length)
    (k : ∀ s', St hk H B F wc env look own L s' → s'.gens = s.gens → Q none s') : wpAny (model prog w) A (pyNext (.ref W.I)) Q E s := by
  have K := ok.turns A hh
  exact K.done s Q E (by rw [ok.len, ← hi]; exact ls.at_) fun h' tk hk' => k _ (LS.keep ls K (ok.nc.1 _ _ ls.at_) hk') rfl
/-- a generator of one's own moves on -/
theorem St.setGen {g : Nat} {x : GenState} (st : St hk H B F wc env look own L s) (hg : B.s₀.gens[g]? = none) (hx : x.bare = true) : St hk H B F wc env look own L (s.setGen g x) := by
  refine { st with pre := { st.pre with }, pure := ⟨st.pure.keep, st.pure.there, st.pure.inv, fun k y e => ?_, fun b => ?_, st.pure.os⟩ }
  · have := st.pure.gens k y e
    have hne : g ≠ k := fun q => by rw [q, e] at hg; cases hg
    show (s.gens.setIfInBounds g x)[k]? = some y
    rw [Array.getElem?_setIfInBounds_ne hne]; exact this
  · have h1 := st.pure.bare b
    intro y hy
    have hy' : y ∈ s.gens.setIfInBounds g x := hy
    rcases Array.mem_or_eq_of_mem_setIfInBounds hy' with h | h
    · exact h1 y h
    · exact h ▸ hx
theorem LS.setGen {g : Nat} {x : GenState} (ls : LS hk H W Lw B F wc env look own L i s) (hg : B.s₀.gens[g]? = none) (hx : x.bare = true) : LS hk H W Lw B F wc env look own L i (s.setGen g x) :=
  { ls with st := ls.st.setGen hg hx }

/-- how the generator and its user speak -/
def genY (hk : PD → Int) (H : Heap) (W : Wk) (Lw : Led) (B : Bs) (F : Fm) (env : Env) (look : Look) (D : Addr) (es : Nat → OwnO) (items : List Item) (r : Item → PD) (g : Nat) : Protocol := fun m s₀ v s kap =>
  ∃ i L' x, i + 1 + m = items.length ∧ items[i]? = some x ∧ LS hk H W Lw B F [] env look [(D, es i)] L' (i + 1) s ∧ Is hk L' v (r x) ∧ s.gens[g]? = some .running ∧
    ∀ s'' L'', LS hk H W Lw B F [] env look [(D, es (i + 1))] L'' (i + 1) s'' → s''.gens[g]? = some .running → kap (.send .none) s''
def genR (hk : PD → Int) (H : Heap) (B : Bs) (F : Fm) (env : Env) (look : Look) (D : Addr) (es : Nat → OwnO) (items : List Item) (g : Nat) : GenEnd := fun n s₀ r s₁ =>
  r = .ok .next ∧ n = 0 ∧ ∃ L', St hk H B F [] env look [(D, es items.length)] L' s₁ ∧ s₁.gens[g]? = some .running
theorem gen_loop {elt iter : Expr} {scope : Scope} {pos : Pos} {f : Item → Look → Look} {r : Item → PD} {D : Addr} {es : Nat → OwnO} {g : Nat} {st it0 : Nat} (wk : WkOk prog w hk t W items Lw) (hco : env.scope.isCoroutine = false)
    (okA : ∀ c, (c = .compLoop (.GeneratorExp elt [⟨t, iter, [], 0⟩] scope pos) 0 (.ref W.I) .none env) → Ok n (A.over c []))
    (tg : ∀ x ∈ items, TGI prog w hk H F [] t x (f x)) (hf : ∀ x ∈ items, ∀ y d, look y = some d → f x look y = some d) (hb : ∀ x ∈ items, EV prog w hk H n F (f x look) elt (r x)) :
    ∀ (k i : Nat) (s₀ s : Shared) (L' : Led), items.length - i = k → i ≤ items.length → LS hk H W Lw B F [] env look [(D, es i)] L' i s → s.gens[g]? = some .running →
      Seg (model prog w) A (genR hk H B F env look D es items g) (genY hk H W Lw B F env look D es items r g) (items.length - i) s₀
        (.compLoop (.GeneratorExp elt [⟨t, iter, [], 0⟩] scope pos) 0 (.ref W.I) .none env)
        ((model prog w).den (.compLoop (.GeneratorExp elt [⟨t, iter, [], 0⟩] scope pos) 0 (.ref W.I) .none env)) [] s := by
  have ok' := okA _ rfl
  intro k
  induction k with
  | zero =>
    intro i s₀ s L' hk' hi ls hg
    have hin : i = items.length := by omega
    subst hin
    show Seg _ A _ _ _ s₀ _ ((compTurn (.GeneratorExp elt [⟨t, iter, [], 0⟩] scope pos) 0 (.ref W.I) .none env).onRaise (leaving env)) [] s
    rw [compTurn_gen, Sem.onRaise_eq_wrap]
    refine seg_bind_wrap (wpAny_standAt ?_)
    refine seg_bind_wrap (ls.done' wk ok'.handled rfl fun s₁ st₁ hg₁ => ?_)
    rw [Nat.sub_self]
    exact seg_end (.ok .next) ⟨rfl, rfl, L', st₁, by rw [hg₁]; exact hg⟩
  | succ k ih =>
    intro i s₀ s L' hk' hi ls hg
    have hlt : i < items.length := by omega
    have it : items[i]? = some items[i] := List.getElem?_eq_getElem hlt
    have hmem : items[i] ∈ items := List.getElem_mem _
    show Seg _ A _ _ _ s₀ _ ((compTurn (.GeneratorExp elt [⟨t, iter, [], 0⟩] scope pos) 0 (.ref W.I) .none env).onRaise (leaving env)) [] s
    rw [compTurn_gen, Sem.onRaise_eq_wrap]
    refine seg_bind_wrap (wpAny_standAt ?_)
    refine seg_bind_wrap (ls.item' wk ok'.handled it fun v s₁ hgo => ?_)
    refine seg_bind_wrap (hgo _ _ fun s₂ ls₂ hg₂ iv => ?_)
    refine seg_bind_wrap (tg items[i] hmem _ _ s₂ L' env look _ v _ _ ok'.handled ls₂.st.rebase iv fun s₃ L₃ _ st₃ => ?_)
    refine seg_bind_wrap (wpAny_tests_nil ?_)
    simp only [if_true]
    have hy : ∀ v, yieldOut env v = yieldValue v := fun v => by simp only [yieldOut, hco, Bool.false_eq_true, if_false]
    simp only [hy]
    rw [Sem.bind_eq_wrap', Sem.bind_eq_wrap', Sem.wrap_wrap, Sem.wrap_wrap]
    refine seg_wrap ((hb items[i] hmem).use ok' st₃.pre fun y s₄ q₄ i₄ p₄ => ?_)
    have st₄ := st₃.step q₄
    have ls₄ := ls₂.back wk (st₄.less (hf _ hmem)) rfl
    have hg₄ : s₄.gens[g]? = some .running := st₄.pure.gens g _ (by
      show s₂.gens[g]? = _
      rw [hg₂]; exact hg)
    have e1 : items.length - i = (items.length - (i + 1)) + 1 := by omega
    rw [e1]
    refine seg_at (seg_yield rfl rfl rfl ⟨i, _, items[i], by omega, it, ls₄, i₄, hg₄, fun s'' L'' ls'' hg'' => ?_⟩)
    exact seg_again rfl (ih (i + 1) s'' s'' L'' (by omega) hlt ls'' hg'')
end
end Mine
end

section -- B24
open PySem PySem.Calls PySem.W PyProof.Rows PySem.SeqAt PySem.MeetsSeq
set_option maxRecDepth 100000
set_option linter.unusedVariables false
namespace Mine
theorem slot_gen_ga : Slot "generator" "__getattribute__" "object.__getattribute__" :=
  .of (owner := "object") (n := "__getattribute__") (by rw [typeLookup_type, builtinLookup_eq_fast]; kernel_rfl) (by decide +kernel) (by decide +kernel) (by decide +kernel)
    (by first | exact .inl (by decide +kernel) | exact .inr (by decide +kernel)) (by rw [isSubtype_type]; kernel_rfl)
theorem gen_getattr_none : typeLookup (.type "generator") "__getattr__" = pure none := by rw [typeLookup_type, builtinLookup_eq_fast]; kernel_rfl
theorem gen_keys_none : typeLookup (.type "generator") "keys" = pure none := by rw [typeLookup_type, builtinLookup_eq_fast]; kernel_rfl
theorem miss_gen (a : Addr) (vs : Array Value) (u : Tok) :
    Meets (Builtin.«object.__getattribute__» ⟨[.ref a, .str "keys" u], []⟩) (fun A R s => s.heap.get? a = some { cls := .type "generator", dict := none, data := .fields vs, slots := #[] } ∧ raisesAttr (.ref a) "keys" A R s) :=
  Meets.of_wp fun prog w A R s hs => by
    obtain ⟨hp, g, d, tk, os⟩ := s
    obtain ⟨hx, hs⟩ := hs
    have hT : (⟨hp, g, d, tk, os⟩ : Shared).TypeIs (.ref a) "generator" := ⟨_, hx, rfl⟩
    have f1 := gen_keys_none
    have hname : (["__module__", "__name__", "__qualname__", "__doc__", "__annotations__"] : List Str).contains "keys" = false := by decide
    unfold Builtin.«object.__getattribute__»
    repeat (first | assumption | with_reducible refine wpAny_bind ?_ | with_reducible refine wpAny_pure ?_ | with_reducible refine wpAny_holding ?_ | with_reducible refine wpAny_attempt ?_ | with_reducible refine wpAny_rule ?_ | with_reducible refine wpAny_throw ?_ | with_reducible refine wpAny_of_eq (by assumption) ?_ | with_reducible refine wpAny_typeOf (by assumption) ?_ | with_reducible refine wpAny_isInstance (by assumption) (by assumption) ?_ | ((with_reducible refine wpAny_ite_false ?_ ?_); focus (rfl; done)) | ((with_reducible refine wpAny_ite_true ?_ ?_); focus (rfl; done)) | ((with_reducible refine wpAny_load' ?_ ?_); focus (heap_get; done)) | ((with_reducible refine wpAny_loadPart' ?_ ?_); focus (heap_get; done)) | wp_delta | wp_step)
    try simp only [hname, Bool.false_eq_true, if_false]
    repeat (first | assumption | with_reducible refine wpAny_bind ?_ | with_reducible refine wpAny_pure ?_ | with_reducible refine wpAny_holding ?_ | with_reducible refine wpAny_attempt ?_ | with_reducible refine wpAny_rule ?_ | with_reducible refine wpAny_throw ?_ | with_reducible refine wpAny_of_eq (by assumption) ?_ | with_reducible refine wpAny_typeOf (by assumption) ?_ | with_reducible refine wpAny_isInstance (by assumption) (by assumption) ?_ | ((with_reducible refine wpAny_ite_false ?_ ?_); focus (rfl; done)) | ((with_reducible refine wpAny_ite_true ?_ ?_); focus (rfl; done)) | ((with_reducible refine wpAny_load' ?_ ?_); focus (heap_get; done)) | ((with_reducible refine wpAny_loadPart' ?_ ?_); focus (heap_get; done)) | wp_delta | wp_step)
    exact wpAny_raiseAttrError hs.1 hs.2 (attrMsg_fits (by decide +kernel) (by decide))
section
variable {prog : Program} {w : World} {A : Around} {E : Value → Shared → Prop} {s : Shared}
theorem gen_no_keys {a : Addr} {vs : Array Value} {Q : Option Value → Shared → Prop} (hx : s.heap.get? a = some { cls := .type "generator", dict := none, data := .fields vs, slots := #[] }) (hA : A.handled = none)
    (h : ∀ h' tk, (∀ b o, s.heap.get? b = some o → h'.get? b = some o) → Q none { s with heap := h', toks := tk }) : wpAny (model prog w) A (getAttr? (.ref a) "keys") Q E s := by
  obtain ⟨hp, g, d, tk, os⟩ := s
  have hT : ∀ tk', (⟨hp, g, d, tk', os⟩ : Shared).TypeIs (.ref a) "generator" := fun _ => ⟨_, hx, rfl⟩
  have f1 := sub_AttributeError
  have f5 := gen_getattr_none
  unfold getAttr?
  refine wpAny_bind (wpAny_mkText ?_)
  unfold getAttrBy?
  refine wpAny_bind (wpAny_attempt ?_)
  unfold getAttrBy
  refine wpAny_holding (wpAny_bind (wpAny_typeOf (hT _) (wpAny_bind (wpAny_of_eq slot_gen_ga.lookup ?_))))
  show wpAny _ _ (getAttrByItsOwn (.ref a) _ (.type "generator") (.builtin "object.__getattribute__") false false) _ _ _
  unfold getAttrByItsOwn
  refine wpAny_bind (wpAny_pure (wpAny_bind (wpAny_attempt (wpAny_holding ?_))))
  show wpAny _ _ (boundAndCalled (.builtin "object.__getattribute__") (.ref a) _) _ _ _
  unfold boundAndCalled
  refine wpAny_bind (wpAny_of_eq (slot_gen_ga.bind (.ref a)) ?_)
  refine call_meets slot_gen_ga (hT _) PySem.F.entry_object_getattribute (PySem.F.args_object_getattribute_2 _ _) (miss_gen a vs _) ⟨hx, hA, fun h' tk' e hx' => ?_⟩
  obtain ⟨t', u', he⟩ := hx'.there
  show wpAny _ _ (getattributeRaised _ _ _ _ _ _ _) _ _ _
  unfold getattributeRaised
  repeat (first | assumption | with_reducible refine wpAny_bind ?_ | with_reducible refine wpAny_pure ?_ | with_reducible refine wpAny_holding ?_ | with_reducible refine wpAny_attempt ?_ | with_reducible refine wpAny_rule ?_ | with_reducible refine wpAny_throw ?_ | with_reducible refine wpAny_of_eq (by assumption) ?_ | with_reducible refine wpAny_typeOf (by assumption) ?_ | with_reducible refine wpAny_isInstance (by assumption) (by assumption) ?_ | ((with_reducible refine wpAny_ite_false ?_ ?_); focus (rfl; done)) | ((with_reducible refine wpAny_ite_true ?_ ?_); focus (rfl; done)) | ((with_reducible refine wpAny_load' ?_ ?_); focus (heap_get; done)) | ((with_reducible refine wpAny_loadPart' ?_ ?_); focus (heap_get; done)) | wp_delta | wp_step)
  exact h _ _ hx'.keeps
end
end Mine
end

section -- B25
open PySem PySem.Calls PySem.W PyProof.Rows PySem.SeqAt PySem.MeetsSeq
set_option maxRecDepth 100000
set_option linter.unusedVariables false
namespace Mine
theorem entry_update_loop : entryFor table "dict.update.loop" = some Builtin.«dict.update.loop» := entryFor_of_tree (by kernel_rfl)
theorem plain_update_loop : plainId "dict.update.loop" = true := by decide +kernel
section
variable {prog : Program} {w : World} {H : Heap} {n : Nat} {F : Fm} {look : Look} {A : Around} {B : Bs} {s s' : Shared} {L L' Lw : Led} {env : Env} {t : Expr} {items : List Item} {W : Wk}
/-- between two calls of the generator -/
def CI (prog : Program) (w : World) (H : Heap) (A : Around) (W : Wk) (Lw : Led) (B : Bs) (F : Fm) (env : Env) (look : Look) (D : Addr) (es : Nat → OwnO) (items : List Item) (r : Item → PD) (g i : Nat) (s : Shared) : Prop :=
  ∃ L' gs, LS (hkW w) H W Lw B F [] env look [(D, es i)] L' i s ∧ s.gens[g]? = some gs ∧ ∀ s'' L'', LS (hkW w) H W Lw B F [] env look [(D, es i)] L'' i s'' → s''.gens[g]? = some .running →
    gs.Goes (model prog w) A.in1.in1 (genR (hkW w) H B F env look D es items g) (genY (hkW w) H W Lw B F env look D es items r g) (items.length - i) (.send .none) s''
theorem gens_setGen {g : Nat} {x y : GenState} {s : Shared} (h : s.gens[g]? = some y) : (s.setGen g x).gens[g]? = some x := setGen_self h
theorem LS.own1 {hk : PD → Int} {wc : List Str} {own : Own} {D : Addr} {x x' : OwnO} {h' : Heap} {tk i : Nat} (wk : WkOk prog w hk t W items Lw) (ls : LS hk H W Lw B F wc env look ((D, x) :: own) L i s) (hs : Heap.SameBut D s.heap h') (ha : OwnAt hk L h' D x') :
    LS hk H W Lw B F wc env look ((D, x') :: own) L i { s with heap := h', toks := tk } := by
  have K := wk.turns {} rfl
  have hD : D ∉ W.fp := ls.ao _ (.head _)
  refine ⟨ls.st.own1 hs ha, K.frame _ _ _ ls.at_ fun b hb o e => hs.extBut b o (fun q => hD (q ▸ hb)) e, ls.nl, ls.sub, fun p hp => ?_, ls.al, ls.ac, ls.aw, ls.new⟩
  rcases List.mem_cons.mp hp with e | hp
  · exact e ▸ hD
  · exact ls.ao p (.tail _ hp)
theorem push_own {D : Addr} {es : List (PD × PD)} {k d : PD} {kv v : Value} (ho : OwnAt (hkW w) L s.heap D (.dct es)) (ik : Is (hkW w) L kv k) (iv : Is (hkW w) L v d) : ∃ h', Heap.SameBut D s.heap h' ∧ OwnAt (hkW w) L h' D (.dct (es ++ [(k, d)])) := by
  obtain ⟨ds, ep, hD, ies⟩ := ho
  refine ⟨s.heap.update D (Obj.mapDictKeys (·.push ⟨hkW w k, kv, v⟩)), Heap.SameBut.update .., ds.push ⟨hkW w k, kv, v⟩, ep + 1, Heap.get?_update_self _ hD rfl, ?_⟩
  rw [Array.toList_push]
  exact ies.append (.cons rfl ik iv .nil)
theorem update_loop {R : Result → Shared → Prop} (wk : WkOk prog w (hkW w) t W items Lw) {D a : Addr} {g : Nat} {es : Nat → List (PD × PD)} {r : Item → PD} {kd : Nat → PD × PD} {nm qn : Value} {res : Value}
    (ok : Ok n A.in1) (hn : 1 ≤ n) (hgB : B.s₀.gens[g]? = none) (hgen : Lw a ({ cls := .type "generator", data := .fields #[.int g 0, nm, qn] } : Obj))
    (hkd : ∀ i x, items[i]? = some x → r x = .tup [(kd i).1, (kd i).2] ∧ KeyAt (es i) (kd i).1 .none ∧ es (i + 1) = es i ++ [kd i]) (hz : ∀ i, i ≤ items.length → (es i).length ≤ sizeLine)
    (hR : ∀ L' s', St (hkW w) H B F [] env look [(D, .dct (es items.length))] L' s' → R (.ok (.ret res)) s') :
    ∀ (k i j : Nat) (s : Shared), items.length - i = k → i ≤ items.length → CI prog w H A W Lw B F env look D (fun i => .dct (es i)) items r g i s →
      codeAny (model prog w) A (.builtin "dict.update.loop" ⟨[.ref D, .ref a, rawInt j, res], []⟩) R s := by
  intro k
  induction k with
  | zero =>
    intro i j s hk hi ci
    have hin : i = items.length := by omega
    subst hin
    refine codeAny_builtin entry_update_loop ?_
    rw [Around.under_plainId plain_update_loop _]
    show wpAny _ A.in1 (pyNext (.ref a) >>= _) _ _ s
    obtain ⟨L₁, gs, ls, hgs, hgo⟩ := ci
    have ha := (ls.st.pre.led _ _ (ls.sub _ _ hgen)).1
    have hIs : s.heap.IsGen a g := ⟨_, _, _, ha, rfl, rfl, rfl⟩
    have hgo' := hgo (s.setGen g .running) L₁ (ls.setGen hgB rfl) (gens_setGen hgs)
    rw [Nat.sub_self] at hgo'
    refine wpAny_bind (wpAny_pyNext_genexpQ (n := 0) (P := fun n s₀ s₁ => n = 0 ∧ ∃ L', St (hkW w) H B F [] env look [(D, .dct (es items.length))] L' s₁ ∧ s₁.gens[g]? = some .running) ok.handled ls.st.pre.inv.lim ok.room hIs hgs hgo' (fun v s₁ gs' _ hY => ?_) (fun s₁ hP h' hk' => ?_))
    · obtain ⟨i', L', x, e, he, ls', iv, hg', hgo''⟩ := hY
      obtain ⟨hr, hkey, hstep⟩ := hkd i' _ he
      rw [hr] at iv
      obtain ⟨T, vals, rfl, ht, iall⟩ := ls'.st.tuple iv
      obtain ⟨kv, vv, hvals, ik, id'⟩ := iall.two
      obtain ⟨h', hs', ho'⟩ := push_own (ls'.st.ownAt _ (.head _)).1 ik id'
      exact (hgo'' { s₁ with heap := h', toks := s₁.toks } L' (by dsimp only; rw [hstep]; exact ls'.own1 wk hs' ho') hg').elim
    · obtain ⟨_, L', st₁, hg₁⟩ := hP
      have st₂ := st₁.setGen (x := .finished) hgB rfl
      have st₃ := st₂.stepL (s' := { s₁.setGen g .finished with heap := h' }) (L₂ := L') (.all (t := (s₁.setGen g .finished).toks) st₂.pre.inv hk') (fun _ _ => id) (st₂.pre.led.keep (.all hk')) fun _ _ => .inl
      show wpAny _ A.in1 (Builtin.Dict.addKeywords D [] >>= fun _ => ret res) _ _ _
      unfold Builtin.Dict.addKeywords
      refine wpAny_bind (wpAny_pure ?_)
      exact wpAny_pure (hR L' _ st₃)
  | succ k ih =>
    intro i j s hk hi ci
    have hlt : i < items.length := by omega
    have hx : items[i]? = some items[i] := List.getElem?_eq_getElem hlt
    obtain ⟨hr, hkey, hstep⟩ := hkd i _ hx
    refine codeAny_builtin entry_update_loop ?_
    rw [Around.under_plainId plain_update_loop _]
    show wpAny _ A.in1 (pyNext (.ref a) >>= _) _ _ s
    obtain ⟨L₁, gs, ls, hgs, hgo⟩ := ci
    have ha := (ls.st.pre.led _ _ (ls.sub _ _ hgen)).1
    have hIs : s.heap.IsGen a g := ⟨_, _, _, ha, rfl, rfl, rfl⟩
    have hgo' := hgo (s.setGen g .running) L₁ (ls.setGen hgB rfl) (gens_setGen hgs)
    have e1 : items.length - i = k + 1 := hk
    rw [e1] at hgo'
    refine wpAny_bind (wpAny_pyNext_genexpQ (n := k + 1) (P := fun n s₀ s₁ => n = 0 ∧ ∃ L', St (hkW w) H B F [] env look [(D, .dct (es items.length))] L' s₁ ∧ s₁.gens[g]? = some .running) ok.handled ls.st.pre.inv.lim ok.room hIs hgs hgo' (fun v s₁ gs' hb hY => ?_) (fun s₁ hP h' hk' => ?_))
    · obtain ⟨i', L', x, e, he, ls', iv, hg', hgo''⟩ := hY
      have hi' : i' = i := by omega
      subst hi'
      rw [hx] at he; cases he
      rw [hr] at iv
      have lsg := ls'.setGen (x := gs') hgB hb
      have st := lsg.st
      obtain ⟨T, vals, rfl, ht, iall⟩ := st.tuple iv
      obtain ⟨kv, vv, hvals, ik, id'⟩ := iall.two
      show wpAny _ A.in1 (holding [.ref T] _ >>= _) _ _ _
      refine wpAny_bind (wpAny_holding ?_)
      have hT := ht.typeIs
      obtain ⟨oT, hoT, hcT, nT, hdT⟩ := id ht
      refine wpAny_bind (wpAny_tryCatch ?_)
      unfold Builtin.Dict.pairItems
      refine wpAny_bind (wpAny_typeOf hT ?_)
      rw [if_pos (by decide)]
      refine wpAny_bind (wpAny_seqItems hoT hdT (wpAny_pure ?_))
      show wpAny _ _ (match vals.toList with | [k, v] => holding [k, v] (dictSet D k v) | l => _) _ _ _
      rw [hvals]
      refine wpAny_holding ?_
      obtain ⟨⟨ds, ep, hD, ies⟩, _, nl, _⟩ := st.ownAt _ (.head _)
      refine set_pd st.pre.led ok.unit hD ies ik id' hkey (hz _ (by omega)) nl fun h' tk hs' ho => ?_
      have e2 : rawInt (((j : Nat) : Int) + 1) = rawInt ((j + 1 : Nat) : Int) := by congr 1
      have ls'' : LS (hkW w) H W Lw B F [] env look [(D, .dct (es (i' + 1)))] L' (i' + 1) { s₁.setGen g gs' with heap := h', toks := tk } := by
        rw [hstep]; exact lsg.own1 wk hs' ho
      refine wpAny_pure ⟨plainId_quiet plain_update_loop _, ?_⟩
      show codeAny _ _ (.builtin "dict.update.loop" ⟨[.ref D, .ref a, rawInt ((j : Int) + 1), res], []⟩) _ _
      rw [e2]
      refine ih (i' + 1) (j + 1) _ (by omega) hlt ?_
      refine ⟨L', gs', ls'', gens_setGen hg', fun s'' L'' l'' g'' => ?_⟩
      have := hgo'' s'' L'' l'' g''
      have e3 : items.length - (i' + 1) = k := by omega
      rw [e3]
      exact this
    · exact absurd hP.1 (by omega)
end
end Mine
end

section -- B26
open PySem PySem.Calls PySem.W PyProof.Rows PySem.SeqAt PySem.MeetsSeq
set_option maxRecDepth 100000
set_option linter.unusedVariables false
namespace Mine
section
variable {prog : Program} {w : World} {H : Heap} {hk : PD → Int} {n : Nat} {F : Fm} {look : Look} {A : Around} {B : Bs} {s s' : Shared} {L L' Lw : Led} {env : Env} {t : Expr} {items : List Item} {W : Wk} {E : Value → Shared → Prop}
/-- the table of a code of the top's has grown -/
theorem Pure.table {c P : Addr} {ps more : Array Value} {h' : Heap} {tk : Nat} (inv : Inv H s.heap) (hH : ∃ ps, H.IsCode c P ps ∧ H.TableAt c P ps) (hP : P ≠ cStatics) (ht : s.heap.TableAt c P ps) (hx : Heap.ExtBut P s.heap h') (hc' : h'.IsCode c P (ps ++ more)) (ht' : h'.TableAt c P (ps ++ more)) (hsp : ∀ q ∈ specT, q.1 = P → TabSp H h' q.1 q.2) : Pure H s { s with heap := h', toks := tk } := by
  obtain ⟨ps0, hc0, ht0⟩ := hH
  have there : ∀ b o, s.heap.get? b = some o → ∃ o', h'.get? b = some o' := fun b o e => by
    by_cases q : b = P
    · exact ⟨_, q ▸ ht'.2⟩
    · exact ⟨o, hx b o q e⟩
  have nsol : ∀ o, s.heap.get? P = some o → ¬ Solid H P o := fun o e q => by
    rw [ht.2] at e; cases e
    rcases q with q | q | q
    · exact q rfl
    · exact q _ rfl
    · rw [ht0.2] at q; cases q
  have k : Keep H s.heap h' := ⟨fun a o e q => hx a o (fun z => nsol o (z ▸ e) (z ▸ q)) e, there⟩
  refine ⟨k, ⟨inv.old.step_table ht0 ht ht' hx hP, inv.kept.trans k, fun c₁ P₁ e₁ hP₁ => ?_, ?_, inv.limH, inv.sysm, fun q hq => ?_⟩, fun _ _ e => e, id, rfl⟩
  · obtain ⟨ps₁, a1, a2⟩ := inv.tabs c₁ P₁ e₁ hP₁
    by_cases q : P₁ = P
    · subst q
      refine ⟨ps ++ more, ?_, ?_⟩
      · obtain ⟨o, vs, file, tf, flags, tg, inF, text, tt, op, ho, hd, h11, h2, h7, h9, h10, hop, r1, r2, r3⟩ := a1
        obtain ⟨o', vs', file', tf', flags', tg', inF', text', tt', op', ho', hd', h11', h2', h7', h9', h10', hop', r1', r2', r3'⟩ := hc'
        exact ⟨o, vs, file, tf, flags, tg, inF, text, tt, op', hx _ _ r3 ho, hd, h11, h2, h7, h9, h10, hop', r1', r2', r3⟩
      · obtain ⟨⟨o, vs, ho, hcc, hd, h11⟩, _⟩ := a2
        have hne : c₁ ≠ P₁ := by
          obtain ⟨_, _, _, _, _, _, _, _, _, _, _, _, _, _, _, _, _, _, _, _, r3⟩ := a1
          exact r3
        exact ⟨⟨o, vs, hx _ _ hne ho, hcc, hd, h11⟩, ht'.2⟩
    · have hcP : c₁ ≠ P := fun z => by
        obtain ⟨⟨o, vs, ho, hcc, hd, h11⟩, _⟩ := a2
        rw [z, ht.2] at ho; cases ho; cases hcc
      exact ⟨ps₁, a1.extBut hx hcP q, a2.extBut hx hcP q⟩
  · exact inv.lim.extBut hx (Ne.symm hP)
  · by_cases e : q.1 = P
    · exact hsp q hq e
    · obtain ⟨h0, ps1, h1, h2, h3⟩ := inv.spec q hq
      refine ⟨h0, ps1, hx _ _ e h1, h2, fun pos cv e1 => ?_⟩
      obtain ⟨cc, oc, f1, f2, f3, f4⟩ := h3 pos cv e1
      exact ⟨cc, oc, f1, hx _ _ (fun z => by rw [z, ht0.2] at f3; cases f3) f2, f3, f4⟩
/-- a table that knows no lines -/
def NP (P : Addr) : Prop := P ≠ cStatics ∧ ∀ q ∈ specT, q.1 ≠ P
/-- the names that a generator sees -/
def seenG (F : Fm) (scope : Scope) (y : Str) : Bool := scope.names.lookup y == some .free && !(y == ("__classdict__" : Str)) && (F.sc.names.lookup y == some .cell || F.sc.names.lookup y == some .free)
def genLook (F : Fm) (scope : Scope) (look : Look) : Look := fun y => if seenG F scope y then look y else none
theorem genFrame {scope : Scope} {od : Obj} {h' : Heap} {m : Str → Option Value} {code : Value} {gs : GenState} {og : Obj} {tk : Nat} (p : Pre hk H F env look L s) (ow : Ow hk H B [] L s) (hcl : ∀ y, scope.names.lookup y ≠ some .cell) (hkd : scope.kind = .function)
    (hfree : ∀ y ∈ scope.names, y.2 = .free → F.sc.names.lookup y.1 = some .cell ∨ F.sc.names.lookup y.1 = some .free) (hgs : gs.bare = true)
    (hn : h'.Ns s.heap.objs.size m) (hs : Heap.SameBut s.heap.objs.size (s.heap.push od) h') :
    St hk H B ⟨scope, none, none⟩ [] (genEnv scope (closFrom env.cells scope.names []) s.heap.objs.size code builtinsNs env) (genLook F scope look) [] L { s with gens := s.gens.push gs, toks := tk, heap := h'.push og } ∧ Pure H s { s with gens := s.gens.push gs, toks := tk, heap := h'.push og } := by
  have lt : ∀ {a : Addr} {o : Obj}, s.heap.get? a = some o → a ≠ s.heap.objs.size := fun e => Nat.ne_of_lt (Heap.lt_size e)
  have old : ∀ b o, s.heap.get? b = some o → (h'.push og).get? b = some o := fun b o e =>
    Heap.get?_push_of_some _ ((hs.2 b (lt e)).trans (Heap.get?_push_of_some _ e))
  have q : Pure H s { s with gens := s.gens.push gs, toks := tk, heap := h'.push og } := by
    have q0 : Pure H s { s with heap := h'.push og, toks := tk } := .all p.inv old
    refine ⟨q0.keep, q0.inv, fun g x e => ?_, fun b => b.push hgs, rfl⟩
    show (s.gens.push gs)[g]? = some x
    rw [Array.getElem?_push]
    have hlt : g < s.gens.size := (Array.getElem?_eq_some_iff.mp e).1
    rw [if_neg (Nat.ne_of_lt hlt)]; exact e
  refine ⟨?_, q⟩
  have nC : s.heap.get? s.heap.objs.size = none := get_size _
  have nL : ∀ {a : Addr}, s.heap.get? a = none → ∀ o, ¬ L a o := fun e o h => by rw [(p.led _ _ h).1] at e; cases e
  have hall : ∀ z ∈ scope.names, z.2 = .free → ∃ c, env.cells.lookup z.1 = some c := fun z hz e => p.has z.1 (hfree z hz e)
  have sub := closFrom_sub env.cells scope.names [] (fun _ _ e => (nomatch e)) hall
  refine ⟨⟨q.inv, p.led.keep q.keep, rfl, hkd, p.glob, rfl, fun c e => (nomatch e), fun c e => (nomatch e), fun x hx => ?_, fun x c e => ?_, fun x d e => ?_⟩, ow.inv0, ow.no, ow.pure.step q, ow.base, ow.sub, fun pr hp => (nomatch hp), List.nodup_nil, ⟨.inl (ow.pure.none nC), nL nC, m, hn.push _⟩, fun x c h0 => (nomatch h0), ⟨fun x _ _ h0 => (nomatch h0), fun x c e => ?_⟩⟩
  · rcases hx with hx | hx
    · exact (hcl x hx).elim
    · obtain ⟨c, hc⟩ := hall (x, .free) (mem_of_lookup hx) rfl
      exact ⟨c, closFrom_lookup env.cells scope.names [] x c hc (.inl (mem_of_lookup hx)) (fun _ _ e => (nomatch e)) hall⟩
  · obtain ⟨o, e'⟩ := p.cthere x c (sub x c e)
    exact ⟨o, old c o e'⟩
  · unfold genLook at e
    by_cases hsn : seenG F scope x = true
    · rw [if_pos hsn] at e
      obtain ⟨v, r, i⟩ := p.view x d e
      refine ⟨v, ?_, i⟩
      unfold seenG at hsn
      rw [Bool.and_eq_true, Bool.and_eq_true] at hsn
      obtain ⟨⟨h1, h3⟩, h2⟩ := hsn
      have hx' : scope.names.lookup x = some .free := by simpa using h1
      have kind : env.kindOf x = F.sc.names.lookup x := by unfold Env.kindOf; rw [p.scope]
      rcases r with ⟨hl, _⟩ | ⟨hl, c, hc, hv⟩
      · rw [kind] at hl; rw [hl] at h2; simp at h2
      · have hc' := closFrom_lookup env.cells scope.names [] x c hc (.inl (mem_of_lookup hx')) (fun _ _ e => (nomatch e)) hall
        exact .inr ⟨.inr ⟨hx', by simpa using h3⟩, c, hc', IsCell.keep hv q.keep⟩
    · rw [if_neg hsn] at e; cases e
  · obtain ⟨o, e'⟩ := p.cthere x c (sub x c e)
    exact lt e'
theorem gen_start {elt iter : Expr} {scope : Scope} {pos : Pos} {f : Item → Look → Look} {r : Item → PD} {D : Addr} {es : Nat → OwnO} {g : Nat} (wk : WkOk prog w hk t W items Lw) (hco : env.scope.isCoroutine = false)
    (okA : Ok (n + 1) A)
    (tg : ∀ x ∈ items, TGI prog w hk H F [] t x (f x)) (hf : ∀ x ∈ items, ∀ y d, look y = some d → f x look y = some d) (hb : ∀ x ∈ items, EV prog w hk H n F (f x look) elt (r x))
    (s₀ : Shared) (ls : LS hk H W Lw B F [] env look [(D, es 0)] L 0 s) (hg : s.gens[g]? = some .running) :
      Seg (model prog w) A (genR hk H B F env look D es items g) (genY hk H W Lw B F env look D es items r g) items.length s₀
        (.compStart (.GeneratorExp elt [⟨t, iter, [], 0⟩] scope pos) 0 (.ref W.I) .none env)
        ((model prog w).den (.compStart (.GeneratorExp elt [⟨t, iter, [], 0⟩] scope pos) 0 (.ref W.I) .none env)) [] s := by
  have okc : ∀ c, (c = .compLoop (.GeneratorExp elt [⟨t, iter, [], 0⟩] scope pos) 0 (.ref W.I) .none env) → Ok n (A.over c []) := by
    rintro c rfl
    have h1 := okA.depth
    have h2 := okA.units
    refine ⟨okA.handled, ?_, ?_⟩
    · have e : (A.over (.compLoop (.GeneratorExp elt [⟨t, iter, [], 0⟩] scope pos) 0 (.ref W.I) .none env) []).depth ≤ A.depth + 2 := by
        show A.depth + frameCount [] + Code.weight _ ≤ _
        simp only [frameCount, List.map_nil, List.sum_nil, Code.weight, Code.isCreation, Code.isGuard, Code.isCaller, Code.frames]
        (repeat' split) <;> simp_all
      omega
    · have e : (A.over (.compLoop (.GeneratorExp elt [⟨t, iter, [], 0⟩] scope pos) 0 (.ref W.I) .none env) []).units ≤ A.units + 10 := by
        show A.units + unitsOf [] + Code.cUnits _ ≤ _
        simp only [unitsOf, List.map_nil, List.sum_nil, Code.cUnits, Code.frames]
        (repeat' split) <;> simp_all
      omega
  have loop := gen_loop (iter := iter) (scope := scope) (pos := pos) (st := 0) (it0 := 0) wk hco okc tg hf hb items.length 0 s₀ s L (Nat.sub_zero _) (Nat.zero_le _) ls hg
  rw [Nat.sub_zero] at loop
  have hh : (A.over (.compStart (.GeneratorExp elt [⟨t, iter, [], 0⟩] scope pos) 0 (.ref W.I) .none env) []).handled = none := okA.handled
  show Seg _ A _ _ _ s₀ _ ((compStart (.GeneratorExp elt [⟨t, iter, [], 0⟩] scope pos) 0 (.ref W.I) .none env).onRaise (leaving env)) [] s
  unfold compStart
  rw [Sem.onRaise_eq_wrap]
  show Seg _ A _ _ _ s₀ _ ((ask >>= _).wrap _ _ _ _) [] s
  refine seg_bind_wrap (wpAny_askSetting ?_)
  split
  · exact seg_again rfl loop
  · first
      | exact seg_bind_wrap (wpAny_rule (seg_bind_wrap (wpAny_standAt (seg_bind_wrap (wk.self _ 0 s _ _ hh ls.at_ (seg_again rfl loop))))))
      | (refine seg_bind_wrap (wpAny_rule ?_); show Seg _ A _ _ _ s₀ _ ((standAt iter.pos >>= _).wrap _ _ _ _) [] s; exact seg_bind_wrap (wpAny_standAt (seg_bind_wrap (wk.self _ 0 s _ _ hh ls.at_ (seg_again rfl loop)))))
end
end Mine
end

section -- B27
open PySem PySem.Calls PySem.W PyProof.Rows PySem.SeqAt PySem.MeetsSeq
set_option maxRecDepth 100000
set_option linter.unusedVariables false
namespace Mine
section
variable {prog : Program} {w : World} {H : Heap} {hk : PD → Int} {n : Nat} {F : Fm} {wc : List Str} {look : Look} {own : Own} {A : Around} {B : Bs} {s s' : Shared} {L L' Lw : Led} {env : Env} {t : Expr} {items : List Item} {W : Wk} {E : Value → Shared → Prop} {K : Frag}
/-- an object of the block's own is frozen -/
theorem St.addLed {D : Addr} {o : Obj} (st : St hk H B F wc env look own L s) (ho : s.heap.get? D = some o) (b : B.own D) (d1 : D ≠ env.locals) (d2 : ∀ x c, env.cells.lookup x = some c → c ≠ D) (d3 : ∀ p ∈ own, p.1 ≠ D) : St hk H B F wc env look own (L.or fun b o' => b = D ∧ o' = o) s := by
  have sol : Good H D o := ⟨.inr (.inr (st.mine b)), st.pre.inv.new (st.mine b)⟩
  refine ⟨{ st.pre with led := st.pre.led.or ?_, view := fun y d' e => ?_ }, st.inv0, st.no, st.pure, fun b o' e => ?_, fun b o' e => .inl (st.sub b o' e), fun p hp => ?_, st.nodup, ?_, fun y c' h0 h1 h2 => ?_, st.cells⟩
  · rintro b o' ⟨rfl, rfl⟩; exact ⟨ho, sol⟩
  · obtain ⟨v, r, i⟩ := st.pre.view y d' e; exact ⟨v, r, i.mono fun _ _ => .inl⟩
  · rcases e with e | ⟨rfl, rfl⟩
    · exact st.base b o' e
    · exact .inr b
  · obtain ⟨a', b', c', d1', d2'⟩ := st.ownAt p hp
    refine ⟨a'.mono (fun _ _ => .inl) rfl, b', fun o' e => ?_, d1', d2'⟩
    rcases e with e | ⟨e, _⟩
    · exact c' o' e
    · exact d3 p hp e
  · obtain ⟨la, lb, m, hm⟩ := st.loc
    refine ⟨la, fun o' e => ?_, m, hm⟩
    rcases e with e | ⟨e, _⟩
    · exact lb o' e
    · exact d1 e.symm
  · obtain ⟨ca, cb, v, hv⟩ := st.cel y c' h0 h1 h2
    refine ⟨ca, fun o' e => ?_, v, hv⟩
    rcases e with e | ⟨e, _⟩
    · exact cb o' e
    · exact d2 y c' h2 e
theorem WkOk.mono (wk : WkOk prog w hk t W items L) (sub : ∀ a o, L a o → Lw a o) (ap : ∀ b ∈ W.wr, ∀ o, ¬ Lw b o) : WkOk prog w hk t W items Lw :=
  ⟨wk.turns, wk.len, fun i v h L' x s hP hx => wk.item i v h L' x (fun a o e => s a o (sub a o e)) hP hx, wk.self, wk.here, fun b hb => (wk.src b hb).imp id fun ⟨o, e⟩ => ⟨o, sub _ _ e⟩, ap, wk.nc⟩
/-- the code of a generator in a def of the top's -/
theorem gen_code {c P : Addr} {pos : Pos} {qn : Str} {scope : Scope} {Q : Value → Shared → Prop} (p : Pre hk H F env look L s) (hcode : F.code = some c) (hH : ∃ ps, H.IsCode c P ps ∧ H.TableAt c P ps) (hP : NP P)
    (h : ∀ v s', Pure H s s' → Q v s') : wpAny (model prog w) A (genexprCode env pos qn scope) Q E s := by
  obtain ⟨ps, h1, h2⟩ := p.inv.tabs c P hH hP.1
  cases hf : codeAmong pos ps.toList with
  | some c' => exact wpAny_genexprCode_hit (p.code c hcode) h1 hf (h _ _ (.refl p.inv))
  | none => exact wpAny_genexprCodeX (p.code c hcode) h1 h2 hf fun c' h' tk hx _ _ hc' _ ht' _ => h _ _ (.table p.inv hH hP.1 h2 hx hc' ht' fun q hq e => (hP.2 q hq e).elim)
theorem gen_blt {Q : Addr → Shared → Prop} (X : Env0 K H) (p : Pre hk H F env look L s) (h : Q builtinsNs s) : wpAny (model prog w) A (builtinsFor env.globals env.builtins) Q E s := by
  obtain ⟨bm, ob, h1, h2, h3, h4, h5, h6⟩ := X.bmain
  rw [p.glob]
  exact wpAny_builtinsFor (Ns.keep X.glob p.inv.kept) h1 h2 (p.inv.get h3 (by rw [h4]; simp)) h4 h5 h6 h

/-- a table made from a generator of pairs -/
theorem call_dict_gen {kd : Item → PD × PD} {g : Nat} {nm qn : Value} {a : Addr} {Q : Value → Shared → Prop} {elt iter : Expr} {scope : Scope} {pos : Pos} {f : Item → Look → Look}
    (wk : WkOk prog w (hkW w) t W items Lw) (okA : Ok (n + 4) A) (hn : 1 ≤ n) (hgB : B.s₀.gens[g]? = none) (hgen : Lw a ({ cls := .type "generator", data := .fields #[.int g 0, nm, qn] } : Obj))
    (hkd : ∀ (i : Nat) x, items[i]? = some x → KeyAt ((items.take i).map kd) (kd x).1 .none) (hz : items.length ≤ sizeLine) (hco : env.scope.isCoroutine = false)
    (tg : ∀ x ∈ items, TGI prog w (hkW w) H F [] t x (f x)) (hf : ∀ x ∈ items, ∀ y d, look y = some d → f x look y = some d) (hb : ∀ x ∈ items, EV prog w (hkW w) H n F (f x look) elt (.tup [(kd x).1, (kd x).2]))
    (ls : LS (hkW w) H W Lw B F [] env look [] L 0 s) (hg : s.gens[g]? = some (.fresh (.compStart (.GeneratorExp elt [⟨t, iter, [], 0⟩] scope pos) 0 (.ref W.I) .none env)))
    (hQ : ∀ D L' s', St (hkW w) H B F [] env look [(D, .dct (items.map kd))] L' s' → Q (.ref D) s') :
    wpAny (model prog w) A (call (.type "dict") [.ref a]) Q E s := by
  have hD0 : s.heap.get? s.heap.objs.size = none := get_size _
  have qD : Pure H s { s with heap := s.heap.push { cls := .type "dict", data := .dict #[] } } := .push ls.st.pre.inv _
  refine callType_codes (Q₁ := fun obj s₁ => obj = .ref s.heap.objs.size ∧ s₁ = { s with heap := s.heap.push { cls := .type "dict", data := .dict #[] } }) PySem.F.kt_called_dict (PySem.F.kt_typeCall_dict_1 _) PySem.F.entry_dict_init (PySem.kt_code_dict_new _ ⟨rfl, rfl⟩) ?_
  rintro obj s₁ ⟨rfl, rfl⟩
  have K := wk.turns {} rfl
  have st₁ := ls.st.addOwn (x0 := .dct []) qD hD0 ⟨_, _, Heap.get?_push_size _ rfl, .nil⟩
  have hTD : Shared.TypeIs { s with heap := s.heap.push { cls := .type "dict", data := .dict #[] } } (.ref s.heap.objs.size) "dict" := ⟨_, Heap.get?_push_size _ rfl, rfl⟩
  refine ⟨hTD, PySem.F.args_dict_init_2 _ _, ?_⟩
  unfold Builtin.«dict.__init__»
  refine wpAny_bind ?_
  unfold Builtin.Dict.selfAndRest
  refine wpAny_bind (wpAny_notOrdered_dict hTD ?_)
  show wpAny _ _ (pure (s.heap.objs.size, [Value.ref a])) _ _ _
  refine wpAny_pure ?_
  show wpAny _ _ (Builtin.Dict.updateFrom "dict.__init__" s.heap.objs.size (.ref a) [] .none) _ _ _
  unfold Builtin.Dict.updateFrom
  have ha₁ := (st₁.pre.led _ _ (ls.sub _ _ hgen)).1
  have hTa : Shared.TypeIs { s with heap := s.heap.push { cls := .type "dict", data := .dict #[] } } (.ref a) "generator" := ⟨_, ha₁, rfl⟩
  refine wpAny_bind (wpAny_typeOf hTa ?_)
  rw [if_pos (by decide)]
  refine wpAny_bind (gen_no_keys ha₁ okA.handled fun h₂ tk₂ hk₂ => ?_)
  have q₂ : Pure H { s with heap := s.heap.push { cls := .type "dict", data := .dict #[] } } { s with heap := h₂, toks := tk₂ } := .all st₁.pre.inv hk₂
  have st₂ := st₁.stepL q₂ (L₂ := L) (fun _ _ => id) (st₁.pre.led.keep q₂.keep) fun _ _ => .inl
  simp only [Option.isNone_none, if_true]
  refine wpAny_bind (wpAny_rule ?_)
  have hIs : h₂.IsGen a g := ⟨_, _, _, hk₂ _ _ ha₁, rfl, rfl, rfl⟩
  refine wpAny_bind (wpAny_pyIter_gen hIs ?_)
  have ok3 : Ok (n + 1) A.in1.in1.in1 := okA.in1.in1.in1
  refine wpAny_pure ⟨plainId_quiet plain_update_loop _, ?_⟩
  show codeAny _ _ (.builtin "dict.update.loop" ⟨[.ref s.heap.objs.size, .ref a, rawInt ((0 : Nat) : Int), .none], []⟩) _ _
  refine update_loop (n := n) (H := H) (F := F) (look := look) (env := env) (A := A.in1) (Lw := Lw) (es := fun i => (items.take i).map kd) (r := fun x => .tup [(kd x).1, (kd x).2]) (kd := fun i => ((items[i]?).map kd).getD (.val .none, .val .none)) wk ((okA.in1.in1).le (by omega)) hn hgB hgen (fun i x hx => ?_) (fun i hi => ?_) (fun L' s' st' => ?_) items.length 0 0 _ (Nat.sub_zero _) (Nat.zero_le _) ?_
  · rw [hx]
    refine ⟨rfl, hkd i x hx, ?_⟩
    show (items.take (i + 1)).map kd = _
    rw [List.take_add_one, hx, List.map_append]; rfl
  · rw [List.length_map, List.length_take]; omega
  · rw [List.take_length] at st'
    exact ⟨rfl, hQ _ L' s' st'⟩
  · have ne : s.heap.objs.size ∉ W.fp := fun h => by
      obtain ⟨o, e⟩ := wk.here _ _ ls.at_ _ h
      rw [hD0] at e; cases e
    refine ⟨L, _, ⟨st₂, K.frame _ _ _ ls.at_ fun b _ o e => hk₂ b o (Heap.get?_push_of_some _ e), ls.nl, ls.sub, fun p hp => (List.mem_singleton.mp hp) ▸ ne, ls.al, ls.ac, ls.aw, ls.new⟩, hg, fun s'' L'' l'' g'' => ⟨rfl, ?_⟩⟩
    exact gen_start (es := fun i => .dct ((items.take i).map kd)) (r := fun x => .tup [(kd x).1, (kd x).2]) wk hco ok3 tg hf hb s'' l'' g''
end
end Mine
end

section -- B28
open PySem PySem.Calls PySem.W PyProof.Rows PySem.SeqAt PySem.MeetsSeq
set_option maxRecDepth 100000
set_option linter.unusedVariables false
namespace Mine
section
variable {prog : Program} {w : World} {H : Heap} {n : Nat} {F : Fm} {wc : List Str} {look : Look} {own : Own} {A : Around} {B : Bs} {s s' : Shared} {L L' Lw : Led} {env : Env} {t : Expr} {items : List Item} {W : Wk} {E : Value → Shared → Prop} {K : Frag}
theorem dictGen_ev {fe elt iter : Expr} {scope : Scope} {pos cpos : Pos} {f : Item → Look → Look} {kd : Item → PD × PD} {c P : Addr} (X : Env0 K H) (hn : 1 ≤ n)
    (hfe : EV prog w (hkW w) H (n + 4) F look fe (.val (.type "dict"))) (hit : IT prog w (hkW w) H (n + 4) F look iter t items) (hz : items.length ≤ sizeLine) (hsc : ScOk F scope) (h0 : scope.names.lookup (".0" : Str) = some NameKind.local) (hco : scope.isCoroutine = false)
    (hcode : F.code = some c) (hH : ∃ ps, H.IsCode c P ps ∧ H.TableAt c P ps) (hP : NP P)
    (tg : ∀ x ∈ items, TGI prog w (hkW w) H ⟨scope, .none, .none⟩ [] t x (f x)) (hf : ∀ x ∈ items, ∀ y d, genLook F scope look y = some d → f x (genLook F scope look) y = some d)
    (hb : ∀ x ∈ items, EV prog w (hkW w) H n ⟨scope, .none, .none⟩ (f x (genLook F scope look)) elt (.tup [(kd x).1, (kd x).2])) (hkd : ∀ (i : Nat) x, items[i]? = some x → KeyAt ((items.take i).map kd) (kd x).1 .none)
    (hs : ∀ env x, genFold iter env x = pure x := by intro _ _; rfl)
    (harm : ∀ env, eval (.Call fe [.GeneratorExp elt [⟨t, iter, [], 0⟩] scope pos] [] cpos) env = (do callWith cpos (← eval fe env) [] (backTo cpos (starEach [.GeneratorExp elt [⟨t, iter, [], 0⟩] scope pos] env)) (backToKw cpos (keywordEach [] env))) := by intro _; rfl) :
    EV prog w (hkW w) H (n + 4) F look (.Call fe [.GeneratorExp elt [⟨t, iter, [], 0⟩] scope pos] [] cpos) (.dict (items.map kd)) := fun A s L env ok p => by
  rw [harm]
  refine wpAny_bind (hfe.use ok p fun v s' q i p' => ?_)
  cases i
  have hclos : closureFor scope env = pure (closFrom env.cells scope.names []) := closureFor_eq fun y hy e => p.has y.1 (hsc.free y hy e)
  refine callWith_any (evalArgs_any rfl rfl (wpAny_items_cons (wpAny_GeneratorExp_make hco hclos hsc.cell h0 hsc.kind ok.room (wpAny_mono (hit A s' _ env ok p') (fun x s₁ h₁ => wpAny_mono h₁ (fun it s₂ h₂ => ?_) fun _ _ f => f.elim) fun _ _ f => f.elim) (hs env)) rfl))
  obtain ⟨W, L₂, rfl, wk, q₂, sub, ho, hb₂, hS, hwr⟩ := h₂
  have K' := wk.turns A ok.handled
  have p₂ : Pre (hkW w) H F env look L₂ s₂ := { p'.pure q₂ with led := ho, view := fun x d e => let ⟨v, r, i⟩ := p'.view x d e; ⟨v, r.keep q₂.keep, i.mono sub⟩ }
  refine ⟨q₂.inv.lim, gen_code p₂ hcode hH hP fun code s₃ q₃ => ?_⟩
  have p₃ : Pre (hkW w) H F env look L₂ s₃ := { p₂.pure q₃ with led := ho.keep q₃.keep, view := fun x d e => let ⟨v, r, i⟩ := p₂.view x d e; ⟨v, r.keep q₃.keep, i⟩ }
  refine gen_blt X p₃ fun h' hn' hs' => ?_
  have cell0 : ∀ y, scope.names.lookup y ≠ some .cell := fun y e => hsc.cell _ (mem_of_lookup e) rfl
  have ow₃ : Ow (hkW w) H ⟨s', L.or (Fresh H s.heap s'.heap), fun _ => False⟩ [] L₂ s₃ := .pure0 p'.inv (q₂.trans q₃) sub p₃.led hb₂
  obtain ⟨st₄, q₄⟩ := genFrame (code := code) (gs := .fresh (.compStart (.GeneratorExp elt [⟨t, iter, [], 0⟩] scope pos) 0 (.ref W.I) .none (genEnv scope (closFrom env.cells scope.names []) s₃.heap.objs.size code builtinsNs env))) (tk := s₃.toks + 1 + 1 + 1)
    (og := { cls := .type "generator", data := .fields #[.int s₃.gens.size 0, .str "<genexpr>" (s₃.toks + 1), .str (env.qual ++ "<genexpr>") (s₃.toks + 1 + 1)] }) p₃ ow₃ cell0 hsc.kind hsc.free rfl hn' hs'
  have sz' : h'.objs.size = s₃.heap.objs.size + 1 := by rw [hs'.1, Heap.size_push]
  have na₃ : s₃.heap.get? h'.objs.size = none := by
    cases z : s₃.heap.get? h'.objs.size with
    | none => rfl
    | some o => exact absurd (Heap.lt_size z) (by rw [sz']; exact Nat.not_lt.mpr (Nat.le_succ _))
  have nC₃ : s₃.heap.get? s₃.heap.objs.size = none := get_size _
  have na₂ := q₃.keep.none na₃
  have nC₂ := q₃.keep.none nC₃
  have st₅ := st₄.addLed (D := h'.objs.size) (Heap.get?_push_size _ rfl) (.inl (q₂.keep.none na₂)) (by
      show h'.objs.size ≠ s₃.heap.objs.size
      rw [sz']; exact Nat.ne_of_gt (Nat.lt_succ_self _)) (fun x c e => by
      obtain ⟨o, e'⟩ := p₃.cthere x c (closFrom_sub env.cells scope.names [] (fun _ _ e => (nomatch e)) (fun z hz e => p.has z.1 (hsc.free z hz e)) x c e)
      intro z; rw [z, na₃] at e'; cases e') (fun _ h => (nomatch h))
  have here : ∀ b ∈ W.fp, ∃ o, s₂.heap.get? b = some o := wk.here 0 _ hS
  have wk' := wk.mono (Lw := L₂.or fun b o' => b = h'.objs.size ∧ o' = ({ cls := .type "generator", data := .fields #[.int s₃.gens.size 0, .str "<genexpr>" (s₃.toks + 1), .str (env.qual ++ "<genexpr>") (s₃.toks + 1 + 1)] } : Obj)) (fun _ _ => .inl) fun b hb o e => by
    rcases e with e | ⟨e, _⟩
    · exact wk.apart b hb o e
    · obtain ⟨o', e'⟩ := here b (K'.sub b hb)
      rw [e, na₂] at e'; cases e'
  have fsol : ∀ b ∈ W.fp, ∀ o, s₂.heap.get? b = some o → Solid H b o := fun b hb o e => by
    rcases wk.src b hb with z | ⟨o', z⟩
    · exact .inr (.inr (p'.inv.none (hwr b z)))
    · obtain ⟨e', sol⟩ := ho _ _ z
      rw [e] at e'; cases e'; exact sol.1
  have sub' := closFrom_sub env.cells scope.names [] (fun _ _ e => (nomatch e)) fun z hz e => p.has z.1 (hsc.free z hz e)
  refine wpAny_items_nil ?_
  have hS₅ : W.S 0 (h'.push { cls := .type "generator", data := .fields #[.int s₃.gens.size 0, .str "<genexpr>" (s₃.toks + 1), .str (env.qual ++ "<genexpr>") (s₃.toks + 1 + 1)] }) :=
    K'.frame _ _ _ hS fun b hb o e => (q₃.trans q₄).keep.keep b o e (fsol b hb o e)
  have ls : LS (hkW w) H W (L₂.or fun b o' => b = h'.objs.size ∧ o' = ({ cls := .type "generator", data := .fields #[.int s₃.gens.size 0, .str "<genexpr>" (s₃.toks + 1), .str (env.qual ++ "<genexpr>") (s₃.toks + 1 + 1)] } : Obj)) ⟨s', L.or (Fresh H s.heap s'.heap), fun _ => False⟩ ⟨scope, none, none⟩ []
      (genEnv scope (closFrom env.cells scope.names []) s₃.heap.objs.size code builtinsNs env) (genLook F scope look) [] (L₂.or fun b o' => b = h'.objs.size ∧ o' = ({ cls := .type "generator", data := .fields #[.int s₃.gens.size 0, .str "<genexpr>" (s₃.toks + 1), .str (env.qual ++ "<genexpr>") (s₃.toks + 1 + 1)] } : Obj)) 0 _ :=
    ⟨st₅, hS₅, wk'.apart, fun _ _ => id, fun _ h => (nomatch h), fun hm => (by
      obtain ⟨o, e⟩ := here _ hm
      rw [show (genEnv scope (closFrom env.cells scope.names []) s₃.heap.objs.size code builtinsNs env).locals = s₃.heap.objs.size from rfl, nC₂] at e; cases e), fun x c e hm => (by
      obtain ⟨o, e'⟩ := p'.cthere x c (sub' x c e)
      rw [hwr c hm] at e'; cases e'), fun x c h => (nomatch h), hwr⟩
  have hg5 : (s₃.gens.push (.fresh (.compStart (.GeneratorExp elt [⟨t, iter, [], 0⟩] scope pos) 0 (.ref W.I) .none (genEnv scope (closFrom env.cells scope.names []) s₃.heap.objs.size code builtinsNs env))))[s₃.gens.size]? = some (.fresh (.compStart (.GeneratorExp elt [⟨t, iter, [], 0⟩] scope pos) 0 (.ref W.I) .none (genEnv scope (closFrom env.cells scope.names []) s₃.heap.objs.size code builtinsNs env))) := by
    rw [Array.getElem?_push, if_pos rfl]
  have hgB : s'.gens[s₃.gens.size]? = none := by
    cases z : s'.gens[s₃.gens.size]? with
    | none => rfl
    | some x =>
      have := (q₂.trans q₃).gens _ x z
      exact absurd (Array.getElem?_eq_some_iff.mp this).1 (Nat.lt_irrefl _)
  refine wpAny_evalAll_nil ?_
  refine wpAny_mono ((KP.type (hk := hkW w)) A _ _ _ st₅.pre.inv st₅.pre.led (.val _)) (fun _ s₆ e => ?_) fun _ _ f => f.elim
  subst e
  show wpAny _ _ (call (.type "dict") [.ref h'.objs.size]) _ _ _
  refine call_dict_gen wk' ok hn hgB (.inr ⟨rfl, rfl⟩) hkd hz hco tg hf hb ls hg5 fun D L' s₇ st₇ => ?_
  obtain ⟨L₈, st₈, i₈, _, _⟩ := st₇.freeze
  have pr := st₈.pure.pure fun _ e => e.elim
  refine Post.step q ⟨pr, i₈.mono fun b o e => ?_⟩
  rcases st₈.base b o e with e' | e' | e'
  · exact .inl e'
  · exact .inr ⟨e', st₈.pre.led _ _ e⟩
  · exact e'.elim
end
end Mine
end

section -- B29
open PySem PySem.Calls PySem.W PyProof.Rows PySem.SeqAt PySem.MeetsSeq
set_option maxRecDepth 100000
set_option linter.unusedVariables false
namespace Mine
section
variable {prog : Program} {w : World} {H : Heap} {hk : PD → Int} {n m : Nat} {F : Fm} {wc : List Str} {look : Look} {own : Own} {A : Around} {B : Bs} {s s' : Shared} {L L' Lw : Led} {env : Env} {E : Value → Shared → Prop}
theorem FN.le {f d : PD} {ps : List PD} {ks : List (Str × PD)} (h : FN prog w hk H n f ps ks d) (hn : n ≤ m) : FN prog w hk H m f ps ks d := fun A s L fv vs kvs ok => h A s L fv vs kvs (ok.le hn)
theorem EV.le {e : Expr} {d : PD} (h : EV prog w hk H n F look e d) (hn : n ≤ m) : EV prog w hk H m F look e d := fun A s L env ok => h A s L env (ok.le hn)
theorem ET.le {e : Expr} {b : Bool} (h : ET prog w hk H n F look e b) (hn : n ≤ m) : ET prog w hk H m F look e b := fun A s L env ok => h A s L env (ok.le hn)
/-- what a made function knows from outside -/
def cloLook (fr : Option (Str × Str)) (fp : FuncData) : Look := fun y => match fr with
  | some (z, x) => if y = z then some (.str x) else none
  | none => none
theorem lookup_rev {b : List (Str × Value)} {x : Str} {v : Value} (hn : (b.map (·.1)).Nodup) (h : b.lookup x = some v) : b.reverse.lookup x = some v := by
  induction b with
  | nil => cases h
  | cons p r ih =>
    obtain ⟨y, u⟩ := p
    have hn' := List.nodup_cons.mp hn
    rw [List.reverse_cons, List.lookup_append]
    rw [List.lookup_cons] at h
    cases q : x == y with
    | true =>
      rw [q] at h; cases h
      have e := beq_iff_eq.mp q
      subst e
      have : r.reverse.lookup x = none := lookup_none (by rw [List.map_reverse, List.mem_reverse]; exact hn'.1)
      rw [this]; simp
    | false =>
      rw [q] at h
      rw [ih hn'.2 h]; rfl
theorem FN.clo {fp : FuncData} {fr : Option (Str × Str)} {body : List Stmt} {ps : List PD} {names : List Str} {ds : List PD} {d : PD} (hbody : fp.body = .stmts body) (hco : fp.scope.isCoroutine = false) (hgen : fp.scope.isGenerator = false) (hkd : fp.scope.kind = .function)
    (hcell : ∀ x ∈ fp.scope.names, x.2 ≠ .cell) (hfree : ∀ x, fp.scope.names.lookup x = some .free → ∃ z, fr = some (x, z)) (hfr : ∀ z x, fr = some (z, x) → fp.scope.names.lookup z = some .free ∧ (z == ("__classdict__" : Str)) = false)
    (hb : ∀ fd vs, fd.params = fp.params → fd.defaults = fp.defaults → fd.kwdefaults = fp.kwdefaults → vs.length = ps.length → bindArgs fd ⟨vs, []⟩ = pure (names.zip vs)) (hlen : names.length = ps.length)
    (hn : names.Nodup) (hkind : ∀ x ∈ names, fp.scope.names.lookup x = some .local)
    (h : EX prog w hk H n ⟨fp.scope, none, none⟩ [] (fun x => match (names.zip ps).lookup x with | some d => some d | none => cloLook fr fp x) [] body ⟨fun _ _ => False, fun _ _ => False, fun d' _ => d' = d⟩) : FN prog w hk H (n + 1) (.clo fp fr) ps [] d := fun A s L fv vs kvs ok inv led iv i1 i2 i3 => by
  cases iv with
  | @clo a _ _ hc =>
    obtain rfl := kvs_nil i3
    obtain ⟨o, fd, c, oc, vc, tc, h1, h2, h3, ⟨e1, e2, e3, e4, e5, e6, e7⟩, ⟨c1, c2, c4, c5⟩, hcl⟩ := hc
    have hlv : vs.length = ps.length := i1.length
    refine wpAny_call (codeAny_call_function ok.room (led _ _ h1).1 h3 (by rw [e3]; exact hco) (by rw [e3]; exact hgen) (by rw [e2]; exact hbody) ⟨c, oc, vc, tc, c1, (led _ _ c2).1, c4, c5⟩ ?_)
    rw [hb fd vs e1 e6 e7 hlv]
    refine wpAny_pure ?_
    refine wpAny_newFunctionEnv (by rw [e3]; exact hcell) (fun x hx => ?_) (fun h' hns hsb => ⟨?_, codeAny_func ?_⟩) (by rw [e3]; exact hkd)
    · rw [e3]; exact hkind _ (List.of_mem_zip hx).1
    · exact (inv.push _).but (X := fun b => b = s.heap.objs.size) (fun b e => inv.none (e ▸ get_size _)) (fun b o x e e' => by rw [e, Heap.get?_push_size _ rfl] at e'; cases e'; exact RecAt.dict rfl x) (fun b o nb e => (hsb.2 b nb).trans e) |>.lim
    · have hC : s.heap.get? s.heap.objs.size = none := get_size _
      have old : ∀ b o, s.heap.get? b = some o → h'.get? b = some o := fun b o e => (hsb.2 b (Nat.ne_of_lt (Heap.lt_size e))).trans (Heap.get?_push_of_some _ e)
      have q : Pure H s { s with heap := h', toks := s.toks + (names.zip vs).length } := .all inv old
      have nL : ∀ o, ¬ L s.heap.objs.size o := fun o e => by rw [(led _ _ e).1] at hC; cases hC
      have ledq : Holds H L h' := led.keep q.keep
      generalize henv : newEnv fd.scope s.heap.objs.size fd.globals fd.closure (fd.qualname ++ ".<locals>.") (some a) fd.code none fd.builtins = env at *
      have e_s : env.scope = fd.scope := by rw [← henv]; rfl
      have e_l : env.locals = s.heap.objs.size := by rw [← henv]; rfl
      have e_g : env.globals = fd.globals := by rw [← henv]; rfl
      have e_b : env.builtins = fd.builtins := by rw [← henv]; rfl
      have e_c : env.cells = fd.closure := by rw [← henv]; rfl
      have kind : ∀ y, env.kindOf y = fp.scope.names.lookup y := fun y => by unfold Env.kindOf; rw [e_s, e3]
      have cellAt : ∀ x c, env.cells.lookup x = some c → ∃ z t ol, fr = some (x, z) ∧ L c ol ∧ ol.data = .cell (some (.str z t)) := fun x c e => by
        rw [e_c] at e
        cases fr with
        | none => rw [hcl] at e; cases e
        | some p =>
          obtain ⟨y, z⟩ := p
          obtain ⟨l, ol, t, hl1, hl2, hl3⟩ := hcl
          rw [hl1, List.lookup_cons] at e
          cases hq : x == y with
          | true => rw [hq] at e; cases e; exact ⟨z, t, ol, by rw [beq_iff_eq.mp hq], hl2, hl3⟩
          | false => rw [hq] at e; cases e
      have st : St hk H ⟨s, L, fun _ => False⟩ ⟨fp.scope, none, none⟩ [] env (fun x => match (names.zip ps).lookup x with | some d => some d | none => cloLook fr fp x) [] L { s with heap := h', toks := s.toks + (names.zip vs).length } := by
        refine ⟨⟨q.inv, ledq, e_s.trans e3, hkd, e_g.trans e4, e_b.trans e5, fun c e => (nomatch e), fun c e => (nomatch e), fun x hx => ?_, fun x c e => ?_, fun x d e => ?_⟩, inv, fun _ e => e.elim, .of q, fun _ _ => .inl, fun _ _ => id, fun p hp => (nomatch hp), List.nodup_nil, ⟨.inl (e_l ▸ hC), fun o => e_l ▸ nL o, _, e_l ▸ hns⟩, fun x c h0 => (nomatch h0), ⟨fun x _ _ h0 => (nomatch h0), fun x c e => ?_⟩⟩
        · rcases hx with hx | hx
          · exact (hcell _ (PySem.mem_of_lookup hx) rfl).elim
          · obtain ⟨z, hz⟩ := hfree x hx
            subst hz
            obtain ⟨l, ol, t, hl1, _⟩ := hcl
            exact ⟨l, by rw [e_c, hl1, List.lookup_cons, beq_self_eq_true]⟩
        · obtain ⟨z, t, ol, _, hl, _⟩ := cellAt x c e
          exact ⟨_, (ledq _ _ hl).1⟩
        · cases hz : (names.zip ps).lookup x with
          | some d' =>
            rw [hz] at e; cases e
            have hi : IsAll hk L ((names.zip vs).map (·.2)) ps := by rw [List.map_snd_zip (by omega)]; exact i1
            have hm : (names.zip vs).map (·.1) = names := List.map_fst_zip (by omega)
            obtain ⟨v, hv, iv⟩ := lookup_zip hi (by rw [hm]; exact hz)
            have hxn : x ∈ names := (List.of_mem_zip (PySem.mem_of_lookup hz)).1
            refine ⟨v, .inl ⟨(kind x).trans (hkind x hxn), _, e_l ▸ hns, ?_⟩, iv⟩
            show (names.zip vs).reverse.lookup x = some v
            exact lookup_rev (by rw [hm]; exact hn) hv
          | none =>
            rw [hz] at e
            unfold cloLook at e
            cases fr with
            | none => cases e
            | some p =>
              obtain ⟨y, z⟩ := p
              dsimp only at e
              by_cases hxy : x = y
              · rw [if_pos hxy] at e; cases e
                subst hxy
                obtain ⟨l, ol, t, hl1, hl2, hl3⟩ := hcl
                obtain ⟨hk1, hk2⟩ := hfr _ _ rfl
                exact ⟨.str z t, .inr ⟨.inr ⟨(kind x).trans hk1, hk2⟩, l, by rw [e_c, hl1, List.lookup_cons, beq_self_eq_true], ol, (ledq _ _ hl2).1, hl3⟩, .str _ _⟩
              · rw [if_neg hxy] at e; cases e
        · obtain ⟨z, t, ol, _, hl, _⟩ := cellAt x c e
          intro hq
          rw [e_l] at hq
          exact nL ol (hq ▸ hl)
      refine wpAny_mono (h (A.deeper env) _ _ _ env (ok.deeper env) st) (fun f s₂ e => ?_) fun _ _ f => f.elim
      cases f with
      | next => obtain ⟨_, _, _, e, _⟩ := e; exact e.elim
      | cont => obtain ⟨_, _, _, e, _⟩ := e; exact e.elim
      | brk => exact e.elim
      | ret v => exact e.post fun _ => id
end
end Mine
end

section -- B30
open PySem PySem.Calls PySem.W PyProof.Rows PySem.SeqAt PySem.MeetsSeq
set_option maxRecDepth 100000
set_option linter.unusedVariables false
namespace Mine
section
variable {prog : Program} {w : World} {H : Heap} {hk : PD → Int} {n m : Nat} {F : Fm} {wc : List Str} {look : Look} {own : Own} {A : Around} {B : Bs} {s s' : Shared} {L L' Lw : Led} {env : Env} {E : Value → Shared → Prop}
theorem CMP.is {u v : Value} {b : Bool} (hp : plainIs u v = true := by rfl) (hb : (u == v) = b := by rfl) : CMP prog w hk H n .Is (.val u) (.val v) b := fun A s L x y _ inv _ i j => by
  cases i; cases j; subst hb; exact wpAny_is_plain hp ⟨rfl, .refl inv⟩
theorem CMP.isNotRef {a : Addr} : CMP prog w hk H n .IsNot (.val (.ref a)) (.val (.ref a)) false := fun A s L x y _ inv _ i j => by
  cases i; cases j; exact wpAny_isNot_ref_self ⟨rfl, .refl inv⟩
theorem beq_str (x y : Str) : (x.cps.toList == y.cps.toList) = (x == y) := by
  have := SeqAt.str_beq x y; exact this
theorem CMP.eqStr {x y : Str} : CMP prog w hk H n .Eq (.str x) (.str y) (x == y) := fun A s L u v _ inv _ i j => by
  cases i; cases j; exact P.eq_str ⟨by rw [beq_str], .refl inv⟩
theorem CMP.neStr {x y : Str} : CMP prog w hk H n .NotEq (.str x) (.str y) (!(x == y)) := fun A s L u v _ inv _ i j => by
  cases i; cases j; exact P.ne_str ⟨by unfold bne; rw [beq_str], .refl inv⟩
theorem CMP.eqInt {x y : Int} : CMP prog w hk H n .Eq (.int x) (.int y) (x == y) := fun A s L u v _ inv _ i j => by
  cases i; cases j; exact P.eq_int ⟨rfl, .refl inv⟩
theorem CMP.ltInt {x y : Int} : CMP prog w hk H n .Lt (.int x) (.int y) (decide (x < y)) := fun A s L u v _ inv _ i j => by
  cases i; cases j; exact P.lt_int ⟨rfl, .refl inv⟩
theorem CMP.gtInt {x y : Int} : CMP prog w hk H n .Gt (.int x) (.int y) (decide (x > y)) := fun A s L u v _ inv _ i j => by
  cases i; cases j; exact P.gt_int ⟨rfl, .refl inv⟩
theorem CMP.neInt {x y : Int} : CMP prog w hk H n .NotEq (.int x) (.int y) (x != y) := fun A s L u v _ inv _ i j => by
  cases i; cases j; exact P.ne_int ⟨rfl, .refl inv⟩
theorem CMP.none' {d : PD} {b : Bool} (h : isNoneD d = b) : CMP prog w hk H n .Is d (.val .none) b := h ▸ CMP.isNone
theorem CMP.notNone' {d : PD} {b : Bool} (h : isNoneD d = !b) : CMP prog w hk H n .IsNot d (.val .none) b := by
  have : b = !isNoneD d := by rw [h]; simp
  exact this ▸ CMP.isNotNone
/-- a binary operation -/
def BIN (prog : Program) (w : World) (hk : PD → Int) (H : Heap) (op : Operator) (a b r : PD) : Prop :=
  ∀ (A : Around) (s : Shared) (L : Led) (u v : Value), A.handled = none → Inv H s.heap → Holds H L s.heap → Is hk L u a → Is hk L v b → wpAny (model prog w) A (binaryOp op u v) (Post hk H L s r) (fun _ _ => False) s
theorem EV.bin {l r : Expr} {op : Operator} {pos : Pos} {a b c : PD} (hl : EV prog w hk H n F look l a) (hr : EV prog w hk H n F look r b) (h : BIN prog w hk H op a b c) : EV prog w hk H n F look (.BinOp l op r pos) c := fun A s L env ok p =>
  wpAny_BinOp (hl.use ok p fun u s₁ q₁ i₁ p₁ => hr.use ok p₁ fun v s₂ q₂ i₂ p₂ => wpAny_mono (h A s₂ _ u v ok.handled p₂.inv p₂.led (i₁.mono fun _ _ => .inl) i₂) (fun _ _ e => Post.step q₁ (Post.step q₂ e)) fun _ _ f => f.elim)
theorem BIN.add {x y : Int} : BIN prog w hk H .Add (.int x) (.int y) (.int (x + y)) := fun A s L u v _ inv _ i j => by
  cases i; cases j; exact P.add_int (Pure.post (.toks inv _) (.int _ _))
theorem TRU.int {x : Int} : TRU prog w hk H (.int x) (x != 0) := fun A s L u _ inv _ i => by
  cases i; exact P.truthy_int ⟨rfl, .refl inv⟩
theorem TRU.list {xs : List PD} (hz : (xs.length : Int) < 2 ^ 63) : TRU prog w hk H (.list xs) (!xs.isEmpty) := fun A s L u _ inv led i => by
  cases i with
  | @list a o vs nn _ h1 h2 h3 h4 =>
    have e := h4.arr
    refine wpAny_truthy_list (items := vs) ⟨_, (led _ _ h1).1, h2, _, h3⟩ (by rw [e]; exact hz) ⟨?_, .toks inv _⟩
    cases xs with
    | nil => have : vs.size = 0 := e; rw [Array.isEmpty, this]; rfl
    | cons x r => rw [Array.isEmpty, e]; rfl
/-- the names given by word -/
theorem BINDS.kw {fd : FuncData} {ps : List PD} {ks : List (Str × PD)} {names : List Str} (h : ∀ vs us : List Value, vs.length = ps.length → us.length = ks.length → bindArgs fd ⟨vs, (ks.map (·.1)).zip us⟩ = pure (names.zip (vs ++ us))) (hl : names.length = ps.length + ks.length) : BINDS prog w hk H fd ps ks names (ps ++ ks.map (·.2)) := fun A s L vs kvs inv led i1 i2 i3 => by
  have e1 := i1.length
  have e2 := i2.length
  rw [List.length_map, List.length_map] at e2
  have e0 : ∀ l : List (Str × Value), (l.map (·.1)).zip (l.map (·.2)) = l := fun l => by
    induction l with
    | nil => rfl
    | cons p r ih => rw [List.map_cons, List.map_cons, List.zip_cons_cons, ih]
  have e3 : kvs = (ks.map (·.1)).zip (kvs.map (·.2)) := by rw [← i3, e0]
  have e4 := h vs (kvs.map (·.2)) e1 (by rw [List.length_map]; exact e2)
  rw [← e3] at e4
  rw [e4]
  refine wpAny_pure ⟨.refl inv, List.map_fst_zip (by rw [List.length_append, List.length_map]; omega), ?_⟩
  rw [List.map_snd_zip (by rw [List.length_append, List.length_map]; omega)]
  exact (i1.append i2).mono fun _ _ => .inl
end
end Mine
end

section -- B31
open PySem PySem.Calls PySem.W PyProof.Rows PySem.SeqAt PySem.MeetsSeq
set_option maxRecDepth 100000
set_option linter.unusedVariables false
namespace Mine
section
variable {prog : Program} {w : World} {H : Heap} {hk : PD → Int} {n m : Nat} {F : Fm} {wc : List Str} {look : Look} {own : Own} {A : Around} {B : Bs} {s s' : Shared} {L L' Lw : Led} {env : Env} {E : Value → Shared → Prop}
theorem FN.tupleOf {ds : List PD} (hz : ds.length ≤ sizeLine) : FN prog w hk H n (.val (.type "tuple")) [.list ds] [] (.tup ds) := fun A s L fv vs kvs ok inv led iv i1 i2 i3 => by
  cases iv
  obtain rfl := kvs_nil i3
  obtain ⟨u, rfl, iu⟩ := i1.one1
  cases iu with
  | @list a o xs nn _ h1 h2 h3 h4 =>
    refine call_tuple_list (hsz := by rw [h4.arr]; exact hz) ⟨_, (led _ _ h1).1, h2, _, h3⟩ fun h' hk' => ?_
    have q1 : Pure H s { s with heap := h' } := .all (t := s.toks) inv hk'
    have q2 : Pure H { s with heap := h' } { s with heap := h'.push { cls := .type "tuple", data := .seq xs } } := .push q1.inv _
    refine ⟨q1.trans q2, .tup (n := 0) (vs := xs) (.inr (Fresh.left q1.keep (Fresh.push rfl ⟨.inl (by simp), q1.inv.new (q1.inv.none (get_size _))⟩))) rfl rfl (h4.mono fun _ _ => .inl)⟩
theorem MT.get {xs : List (PD × PD)} {k dd r : PD} (hn : 1 ≤ n) (h : (∃ i k', KeyAt xs k (some i) ∧ xs[i]? = some (k', r)) ∨ (KeyAt xs k .none ∧ r = dd)) : MT prog w (hkW w) H n (.dict xs) "get" [k, dd] r := fun A s L o pl ok inv led io => by
  cases io with
  | @dict d od es ep _ h1 h2 h3 h4 =>
    have hod := (led _ _ h1).1
    refine getMethod_builtin ⟨_, hod, h2.1⟩ PySem.F.plainAttrs_dict PySem.F.slot_dict_get PySem.F.type_dict_get (fun a e => by cases e; exact ⟨_, hod, h2.2.1⟩) ⟨rfl, _, rfl, fun s' L' vs inv' led' io' ivs => ?_⟩
    obtain ⟨kv, dv, rfl, ik, idd⟩ := ivs.two
    cases io' with
    | @dict _ od' es' ep' _ g1 g2 g3 g4 =>
      have hod' := (led' _ _ g1).1
      have hsys := (led' _ _ g1).2.2
      show wpAny _ _ (call (.builtin "dict.get") [.ref d, kv, dv]) _ _ _
      refine wpAny_call_entry PySem.F.slot_dict_get ⟨_, hod', g2.1⟩ PySem.F.entry_dict_get ?_ (PySem.F.args_dict_get_3 _ _ _)
      show wpAny _ _ (dictGet d kv >>= _) _ _ s'
      rcases h with ⟨i, k', hj, hx⟩ | ⟨hj, rfl⟩
      · refine wpAny_bind (get_pd led' (ok.units1 hn) hod' g3 g4 ik hj hx fun v tk iv => ?_)
        exact wpAny_pure ⟨v, rfl, Pure.post (.toks inv' tk) iv⟩
      · refine wpAny_bind ?_
        unfold dictGet
        try with_reducible refine wpAny_holding ?_
        refine wpAny_bind (ik.pyHash led' (ok.units1 hn) hj.2.1 fun tk => ?_)
        refine wpAny_bind (find_pd (s := { s' with toks := tk }) led' (ok.units1 hn) hod' g3 g4 ik hj ?_)
        refine wpAny_pure ?_
        show wpAny _ _ (Builtin.Dict.missed d kv >>= _) _ _ _
        exact wpAny_bind (wpAny_missed_other hsys (wpAny_pure ⟨dv, rfl, Pure.post (.toks inv' tk) idd⟩))

theorem IsEs.pairsStr {es : List DictEntry} {xs : List (Str × PD)} (h : IsEs (hkW w) L es (xs.map fun p => (.str p.1, p.2))) : Pairs (PySem.strKind prog w) es ((xs.map (·.1)).zip (es.map (·.val))) ∧ ∀ e ∈ es, ∃ k, (PySem.strKind prog w).is k e.key = true ∧ e.hash = (PySem.strKind prog w).hash k := by
  induction xs generalizing es with
  | nil => cases h; exact ⟨.nil, fun e he => (nomatch he)⟩
  | cons x xs ih =>
    cases h with
    | @cons e es' _ _ h0 h1 h2 h3 =>
      obtain ⟨p1, p2⟩ := ih h3
      have hk : (PySem.strKind prog w).is x.1 e.key = true := by
        generalize e.key = u at h1
        cases h1
        simp [PySem.strKind, Value.isStrOf]
      refine ⟨.cons hk rfl p1, fun e' he => ?_⟩
      rcases List.mem_cons.mp he with q | he
      · subst q; exact ⟨x.1, hk, h0⟩
      · exact p2 e' he
theorem noRec_kiter {h : Heap} {a d : Addr} {i n ep : Nat} (x : h.IsKeyIter a d i n ep) : ∀ o y, h.get? a = some o → ¬ RecAt o y := fun o y e ⟨vs, t, e1, e2⟩ => by
  obtain ⟨o', e', _, hd⟩ := x
  rw [e] at e'; cases e'
  rw [hd] at e1; cases e1; cases e2
theorem IT.keys {e t : Expr} {xs : List (Str × PD)} (h : EV prog w (hkW w) H n F look e (.dict (xs.map fun p => (.str p.1, p.2)))) (hnd : (xs.map (·.1)).Nodup) (hz : xs.length ≤ sizeLine := by decide) : IT prog w (hkW w) H n F look e t (xs.map fun p => .one (.str p.1)) := fun A s L env ok p => h.use ok p fun v s₁ q i p₁ => by
  cases i with
  | @dict d od es ep _ h1 h2 h3 h4 =>
    obtain ⟨hp, hko⟩ := IsEs.pairsStr (prog := prog) (w := w) h4
    have hlen : es.toList.length = xs.length := by rw [h4.length, List.length_map]
    have hm : (((xs.map (·.1)).zip (es.toList.map (·.val))).map (·.1)) = xs.map (·.1) := List.map_fst_zip (by rw [List.length_map, List.length_map]; omega)
    have hat : s₁.heap.DictAt (PySem.strKind prog w) d ((xs.map (·.1)).zip (es.toList.map (·.val))) ep := ⟨od, es, (p₁.led _ _ h1).1, h2, h3, fun e he => hko e (Array.mem_toList_iff.mpr he), hp, by rw [hm]; exact hnd⟩
    have hl2 : ((xs.map (·.1)).zip (es.toList.map (·.val))).length = xs.length := by rw [← List.length_map (f := (·.1)), hm, List.length_map]
    have hne : d ≠ s₁.heap.objs.size := Nat.ne_of_lt (Heap.lt_size (p₁.led _ _ h1).1)
    generalize (xs.map (·.1)).zip (es.toList.map (·.val)) = kvs at hp hm hat hl2
    refine wpAny_pyIter_dict (p₁.led _ _ h1).2.2 hat ?_
    have q₁ : Pure H s₁ { s₁ with heap := s₁.heap.push { cls := .type "dict_keyiterator", data := .fields #[.ref d, .int 0 0, .int kvs.length 0, .int ep 0] } } := .push p₁.inv _
    have nI : s.heap.get? s₁.heap.objs.size = none := q.keep.none (get_size _)
    refine ⟨⟨s₁.heap.objs.size, [s₁.heap.objs.size, d], [s₁.heap.objs.size], kvs.length, fun i v _ => ∃ k x, kvs[i]? = some (k, x) ∧ (PySem.strKind prog w).is k v = true, fun i v h => (∃ k x, kvs[i]? = some (k, x) ∧ (PySem.strKind prog w).is k v = true) ∧ h.IsKeyIter s₁.heap.objs.size d (i + 1) kvs.length ep ∧ h.DictAt (PySem.strKind prog w) d kvs ep, fun i h => h.IsKeyIter s₁.heap.objs.size d i kvs.length ep ∧ h.DictAt (PySem.strKind prog w) d kvs ep⟩, L.or (Fresh H s.heap s₁.heap), rfl, ⟨fun A hh => KTurns.ofWalks (Walks.dictKeys (knd := PySem.strKind prog w) hh _ d hne _ ep) fun i v s Q E st q => letGo_keyiter st.1 q, by rw [hl2, List.length_map], fun i v h L' x sub hv hx => ?_, fun A i s Q E hh st hQ => (Walks.dictKeys (knd := PySem.strKind prog w) hh _ d hne _ ep).self i s Q E st hQ, fun i h st b hb => ?_, fun b hb => ?_, fun b hb o e => ?_, fun i h st b hb => List.mem_singleton.mp hb ▸ noRec_kiter st.1, fun i v h st b hb => List.mem_singleton.mp hb ▸ noRec_kiter st.2.1⟩, q.trans q₁, fun _ _ => .inl, p₁.led.keep q₁.keep, fun a o e => e.imp id And.left, ⟨⟨_, Heap.get?_push_size _ rfl, rfl, rfl⟩, hat.at' fun o e => Heap.get?_push_of_some _ e⟩, fun b hb => by rw [List.mem_singleton.mp hb]; exact nI⟩
    · obtain ⟨k, y, hk, hv⟩ := hv
      have hk' : (xs.map (·.1))[i]? = some k := by
        rw [← hm, List.getElem?_map, hk]; rfl
      rw [List.getElem?_map] at hx hk'
      obtain ⟨z, hz1, rfl⟩ := Option.map_eq_some_iff.mp hx
      rw [hz1] at hk'
      cases hk'
      obtain ⟨t, rfl⟩ := Value.isStrOf_shape hv
      exact .str _ _
    · rcases List.mem_cons.mp hb with e | hb
      · obtain ⟨o, ho, _⟩ := st.1; exact ⟨o, e ▸ ho⟩
      · obtain ⟨o, es', ho, _⟩ := st.2; exact ⟨o, List.mem_singleton.mp hb ▸ ho⟩
    · rcases List.mem_cons.mp hb with e | hb
      · exact .inl (by simp [e])
      · exact .inr ⟨od, List.mem_singleton.mp hb ▸ h1⟩
    · have e1 := (p₁.led _ _ e).1
      rw [List.mem_singleton.mp hb, get_size] at e1; cases e1
end
end Mine
end

section -- B32
open PySem PySem.Calls PySem.W PyProof.Rows PySem.SeqAt PySem.MeetsSeq
set_option maxRecDepth 100000
set_option linter.unusedVariables false
namespace Mine
theorem sz {n : Nat} (h : Nat.ble n 1000 = true) : n ≤ sizeLine := Nat.le_trans (Nat.le_of_ble_eq_true h) (by decide)
def keyAtGo (k : PD) (j : Option Nat) : Nat → List PD → Bool
  | _, [] => true
  | i, x :: r => keyB x && (keyEq x k == decide (j = some i)) && keyAtGo k j (i + 1) r
def keyAtC (ks : List PD) (k : PD) (j : Option Nat) : Bool := keyB k && keyAtGo k j 0 ks && (match j with
  | some i => Nat.blt i ks.length
  | none => true)
theorem keyAtGo_of {k : PD} {j : Option Nat} : ∀ {xs : List (PD × PD)} {i : Nat}, keyAtGo k j i (xs.map (·.1)) = true → (∀ x ∈ xs, keyB x.1 = true) ∧ ∀ (m : Nat) x, xs[m]? = some x → keyEq x.1 k = decide (j = some (i + m))
  | [], i, _ => ⟨fun x hx => (nomatch hx), fun m x hx => by simp at hx⟩
  | y :: r, i, h => by
    rw [List.map_cons] at h
    unfold keyAtGo at h
    rw [Bool.and_eq_true, Bool.and_eq_true] at h
    obtain ⟨⟨h1, h2⟩, h3⟩ := h
    obtain ⟨g1, g2⟩ := keyAtGo_of h3
    refine ⟨fun x hx => ?_, fun m x hx => ?_⟩
    · rcases List.mem_cons.mp hx with e | hx
      · exact e ▸ h1
      · exact g1 x hx
    · cases m with
      | zero => simp at hx; subst hx; simpa using h2
      | succ m =>
        have := g2 m x (by simpa using hx)
        rw [this]
        have e : i + 1 + m = i + (m + 1) := by omega
        rw [e]
theorem KeyAt.of {xs : List (PD × PD)} {k : PD} {j : Option Nat} (h : keyAtC (xs.map (·.1)) k j = true) : KeyAt xs k j := by
  unfold keyAtC at h
  rw [Bool.and_eq_true, Bool.and_eq_true] at h
  obtain ⟨⟨h1, h2⟩, h3⟩ := h
  obtain ⟨g1, g2⟩ := keyAtGo_of h2
  refine ⟨g1, h1, fun i x hx => by simpa using g2 i x hx, fun i hi => ?_⟩
  subst hi
  simpa [Nat.blt_eq] using h3
end Mine
end

section -- B33
open PySem PySem.Calls PySem.W PyProof.Rows PySem.SeqAt PySem.MeetsSeq
set_option maxRecDepth 100000
set_option linter.unusedVariables false
namespace Mine
/-- what is drawn -/
inductive T where
  | n (i : Int)
  | t (x : Str)
  | z
  | l (ts : List T)
  | u (ts : List T)
  | o (a b : T)
  | d (ks : List PD) (ts : List T)
def turnD : PD → PD
  | .int i => .int (i + 1000)
  | d => d
def keyT (tn : Bool) (d : PD) : PD := if tn then turnD d else d
mutual
/-- the drawing laid out -/
def laid (k : Addr) : T → PD
  | .n i => .int i
  | .t x => .str x
  | .z => .val .none
  | .l ts => .list (laidL k ts)
  | .u ts => .tup (laidL k ts)
  | .o a b => .obj k (laid k a) (laid k b)
  | .d ks ts => .dict (ks.zip (laidL k ts))
def laidL (k : Addr) : List T → List PD
  | [] => []
  | x :: r => laid k x :: laidL k r
end
mutual
/-- the drawing told as a table -/
def tell (keep : Bool) (wo : Str → Bool) (tn : Bool) : T → PD
  | .n i => keyT tn (.int i)
  | .t x => .str x
  | .z => .val .none
  | .l ts => .list (tellL keep wo tn ts)
  | .u ts => if keep then .tup (tellL keep wo tn ts) else .list (tellL keep wo tn ts)
  | .o a b => .dict ((if wo "p" then [(.str "p", tell keep wo tn a)] else []) ++ (if wo "q" then [(.str "q", tell keep wo tn b)] else []))
  | .d ks ts => .dict ((ks.map (keyT tn)).zip (tellL keep wo tn ts))
def tellL (keep : Bool) (wo : Str → Bool) (tn : Bool) : List T → List PD
  | [] => []
  | x :: r => tell keep wo tn x :: tellL keep wo tn r
end
def xyKey : PD := .tup [.str "x", .str "y"]
/-- the tables' keys -/
def KS : List (List PD) := [[], [.str "k"], [xyKey], [.int 7], [.str "k", .str "z"], [xyKey, .str "z"], [.int 7, .str "z"]]
mutual
def WT : T → Prop
  | .l ts => WTL ts ∧ ts.length ≤ 2
  | .u ts => WTL ts ∧ ts.length ≤ 2
  | .o a b => WT a ∧ WT b
  | .d ks ts => WTL ts ∧ ks.length = ts.length ∧ ks ∈ KS
  | _ => True
def WTL : List T → Prop
  | [] => True
  | x :: r => WT x ∧ WTL r
end
mutual
def ht : T → Nat
  | .l ts => htL ts + 1
  | .u ts => htL ts + 1
  | .o a b => max (ht a) (ht b) + 1
  | .d ks ts => htL ts + 1
  | _ => 0
def htL : List T → Nat
  | [] => 0
  | x :: r => max (ht x) (htL r)
end
theorem laidL_map (k : Addr) : ∀ ts, laidL k ts = ts.map (laid k)
  | [] => by simp [laidL]
  | x :: r => by simp [laidL, laidL_map k r]
theorem tellL_map (keep : Bool) (wo : Str → Bool) (tn : Bool) : ∀ ts, tellL keep wo tn ts = ts.map (tell keep wo tn)
  | [] => by simp [tellL]
  | x :: r => by simp [tellL, tellL_map keep wo tn r]
theorem WTL_mem : ∀ {ts : List T}, WTL ts → ∀ x ∈ ts, WT x
  | [], _, _, h => nomatch h
  | y :: r, h, x, hx => by
    unfold WTL at h
    rcases List.mem_cons.mp hx with e | hx
    · exact e ▸ h.1
    · exact WTL_mem h.2 x hx
theorem htL_mem : ∀ {ts : List T}, ∀ x ∈ ts, ht x ≤ htL ts
  | [], _, h => nomatch h
  | y :: r, x, hx => by
    unfold htL
    rcases List.mem_cons.mp hx with e | hx
    · exact e ▸ Nat.le_max_left _ _
    · exact Nat.le_trans (htL_mem x hx) (Nat.le_max_right _ _)
end Mine
end

section -- B34
open PySem PySem.Calls PySem.W PyProof.Rows PySem.SeqAt PySem.MeetsSeq
set_option maxRecDepth 100000
set_option linter.unusedVariables false
namespace Mine
section
variable {prog : Program} {w : World} {hk : PD → Int} {H : Heap} {n : Nat} {F : Fm} {wc : List Str} {look : Look} {own own' : Own} {A : Around} {B : Bs} {s s' : Shared} {L L' L₂ Lw : Led} {env : Env} {t : Expr} {items : List Item} {W : Wk} {G : Goal}
/-- as pure_comp, the results told by place -/
theorem pure_compI {elt iter : Expr} {scope : Scope} {pos : Pos} {use : Option (Value → Sem Unit)} {f : Item → Look → Look} {rs : List PD} {Q : Value → Shared → Prop} {E : Value → Shared → Prop} (ok : Ok n A) (p : Pre hk H F env look L s)
    (hit : IT prog w hk H n F look iter t items) (hsz : items.length ≤ sizeLine) (hsc : ScOk F scope) (hs : ∀ x, foldedSetIterable iter env x = pure x) (hlen : rs.length = items.length)
    (tg : ∀ x ∈ items, TGI prog w hk H (F.comp scope) [] t x (f x)) (hf : ∀ x ∈ items, ∀ y d, compLook F scope look y = some d → f x (compLook F scope look) y = some d)
    (hb : ∀ (i : Nat) x r, items[i]? = some x → rs[i]? = some r → EV prog w hk H n (F.comp scope) (f x (compLook F scope look)) elt r)
    (hQ : ∀ L' s' D C, s.heap.get? C = none → Ow hk H ⟨s, L, fun _ => False⟩ [] L' s' → Is hk L' (.ref D) (.list rs) → (∃ m, s'.heap.Ns C m) → (∀ o, ¬ L' C o) → compPost (model prog w) A E use Q (.ref D) C (.ok .next) s') :
    wpAny (model prog w) A (comprehension (.ListComp elt [⟨t, iter, [], 0⟩] scope pos) scope env iter.pos (newList []) false (eval iter env) use) Q E s := by
  refine comp_list (own := []) (B := ⟨s, L, fun _ => False⟩) ok p hit hsz hsc.cell hsc.kind hsc.names hsc.free hs (fun i ys o => ys = rs.take i ∧ o = []) ?_ ?_ tg hf ?_ (fun s₂ L₂ q sub ho hb => .pure0 p.inv q sub ho hb) (fun _ h => (nomatch h)) (fun _ e => e) (fun _ h => (nomatch h)) ?_
  · rintro i ys o ⟨rfl, rfl⟩
    exact ⟨rfl, by rw [List.length_take]; exact Nat.min_le_left _ _⟩
  · exact ⟨by simp, rfl⟩
  · rintro i x ys o hx ⟨rfl, rfl⟩
    have hi : i < rs.length := by rw [hlen]; exact (List.getElem?_eq_some_iff.mp hx).1
    have hr : rs[i]? = some rs[i] := List.getElem?_eq_getElem hi
    have step : rs.take (i + 1) = rs.take i ++ [rs[i]] := by rw [List.take_add_one, hr]; rfl
    exact .pure .nil (hb i x _ hx hr) ⟨step.symm, rfl⟩
  · rintro ys o L' s' D C ⟨rfl, rfl⟩ hC ow i hn _ hl
    rw [← hlen, List.take_length] at i
    exact hQ L' s' D C hC ow i hn hl
theorem EV.listCompI {elt iter : Expr} {scope : Scope} {pos : Pos} {f : Item → Look → Look} {rs : List PD}
    (hit : IT prog w hk H n F look iter t items) (hsz : items.length ≤ sizeLine) (hsc : ScOk F scope) (hlen : rs.length = items.length)
    (tg : ∀ x ∈ items, TGI prog w hk H (F.comp scope) [] t x (f x)) (hf : ∀ x ∈ items, ∀ y d, compLook F scope look y = some d → f x (compLook F scope look) y = some d)
    (hb : ∀ (i : Nat) x r, items[i]? = some x → rs[i]? = some r → EV prog w hk H n (F.comp scope) (f x (compLook F scope look)) elt r)
    (hs : ∀ env x, foldedSetIterable iter env x = pure x := by intro _ _; rfl) :
    EV prog w hk H n F look (.ListComp elt [⟨t, iter, [], 0⟩] scope pos) (.list rs) := fun A s L env ok p => by
  rw [eval_listComp]
  refine pure_compI ok p hit hsz hsc (hs env) hlen tg hf hb fun L' s' D C hC ow i ⟨m, hn⟩ hl => ⟨m, hn, fun h' hs' => ⟨?_, ow.frozen i hl hs'⟩⟩
  exact (ow.pure.pure fun _ e => e.elim).tail p.inv hC ⟨m, hn⟩ hs'
theorem EX.assignListI {x : Str} {p' apos : Pos} {elt iter : Expr} {scope : Scope} {pos : Pos} {f : Item → Look → Look} {rs : List PD} {rest : List Stmt}
    (hit : IT prog w hk H n F look iter t items) (hsz : items.length ≤ sizeLine) (hsc : ScOk F scope) (hlen : rs.length = items.length)
    (tg : ∀ x ∈ items, TGI prog w hk H (F.comp scope) [] t x (f x)) (hf : ∀ x ∈ items, ∀ y d, compLook F scope look y = some d → f x (compLook F scope look) y = some d)
    (hb : ∀ (i : Nat) x r, items[i]? = some x → rs[i]? = some r → EV prog w hk H n (F.comp scope) (f x (compLook F scope look)) elt r)
    (k : EX prog w hk H n F wc (upd look x (.list rs)) own rest G)
    (hx : F.sc.names.lookup x = some .local ∨ (F.sc.names.lookup x = some .cell ∧ x ∈ wc) := by first | exact .inl rfl | exact .inr ⟨rfl, by simp⟩)
    (hs : ∀ env x, foldedSetIterable iter env x = pure x := by intro _ _; rfl)
    (hsw : ∀ env : Env, env.scope = F.sc → swapsWith (.ListComp elt [⟨t, iter, [], 0⟩] scope pos) (some (.Name x p')) apos.line env = pure true := by intro env h; obtain ⟨sc, a1, a2, a3, a4, a5, a6, a7, a8⟩ := env; dsimp only at h; subst h; rfl)
    (hu : ∀ env use, evalThenUse (.ListComp elt [⟨t, iter, [], 0⟩] scope pos) env use = (do let _ ← comprehension (.ListComp elt [⟨t, iter, [], 0⟩] scope pos) scope env iter.pos (newList []) false (eval iter env) (some use)) := by intro _ _; rfl) :
    EX prog w hk H n F wc look own (.Assign [.Name x p'] (.ListComp elt [⟨t, iter, [], 0⟩] scope pos) apos :: rest) G := .step fun A B s L env ok st => by
  rw [exec_Assign_Name_used _ _ _ _ (hsw env st.pre.scope), hu]
  refine wpAny_bind (wpAny_standAt (wpAny_bind (wpAny_bind (pure_compI (E := fun _ _ => False) ok st.pre hit hsz hsc (hs env) hlen tg hf hb fun L' s' D C hC ow i ⟨m, hn⟩ hl => ?_))))
  have q : Pure H s s' := ow.pure.pure fun _ e => e.elim
  have st' : St hk H B F wc env look own L' s' := st.stepL q ow.sub ow.led fun a o e => (ow.base a o e).imp id fun e => e.elim id False.elim
  have ne : ∀ {a : Addr}, (∃ o, s.heap.get? a = some o) → a ≠ C := fun ⟨o, e⟩ q => by rw [q, hC] at e; cases e
  refine wpAny_assign_Name (st'.rebase.store i hx fun s'' st'' => ?_)
  have nX : ¬ (St.there own wc F env L' s').X C := fun e => by
    rcases e with e | ⟨p, hp, e⟩ | ⟨y, h1, h2, h3⟩
    · exact ne (by obtain ⟨_, _, m, c⟩ := st.loc; exact Ns.there c) e.symm
    · exact ne (st.ownAt p hp).1.there e.symm
    · exact ne (st.pre.cthere y C h3) rfl
  have hn'' : s''.heap.Ns C m := by
    obtain ⟨o, es, ep, e, hd, r⟩ := hn
    exact ⟨o, es, ep, st''.pure.keep _ _ e (.inr (.inl fun vs q => by rw [hd] at q; cases q)) nX, hd, r⟩
  refine ⟨m, hn'', fun h' hs' => wpAny_pure (wpAny_pure ⟨_, _, L', k, ?_⟩)⟩
  have stf := st'.back st''
  exact stf.but (tk := s''.toks) (wr := [C]) (fun b hb => by rw [List.mem_singleton.mp hb]; exact st.pure.none hC) (fun b hb => by rw [List.mem_singleton.mp hb]; exact hl)
    (fun p hp h => ne (st.ownAt p hp).1.there (List.mem_singleton.mp h)) (fun h => ne (by obtain ⟨_, _, m, c⟩ := st.loc; exact Ns.there c) (List.mem_singleton.mp h))
    (fun y c e h => ne (st.pre.cthere y c e) (List.mem_singleton.mp h)) (fun b hb => by rw [List.mem_singleton.mp hb]; exact RecAt.ns hn'') (fun b o hb e => (hs'.2 b fun q => hb (by simp [q])).trans e)
/-- a scope's check -/
def scOk (F : Fm) (scope : Scope) : Bool := (scope.names.all fun y => !(y.2 == .cell)) && (scope.kind == .function) && (scope.names.all fun x => !(x.2 == .local) || (scope.names.lookup x.1 == some .local)) && (scope.names.all fun y => !(y.2 == .free) || (F.sc.names.lookup y.1 == some .cell || F.sc.names.lookup y.1 == some .free))
theorem ScOk.of {scope : Scope} (h : scOk F scope = true) : ScOk F scope := by
  unfold scOk at h
  rw [Bool.and_eq_true, Bool.and_eq_true, Bool.and_eq_true] at h
  obtain ⟨⟨⟨h1, h2⟩, h3⟩, h4⟩ := h
  refine ⟨fun y hy => ?_, by simpa using h2, fun x hx e => ?_, fun y hy e => ?_⟩
  · have := List.all_eq_true.mp h1 y hy; simpa using this
  · have := List.all_eq_true.mp h3 x hx; rw [e] at this; simpa using this
  · have := List.all_eq_true.mp h4 y hy; rw [e] at this; simpa using this
/-- a name bound in a comprehension hides nothing that it sees -/
theorem compLook_upd {scope : Scope} {x : Str} {d0 : PD} (hx : (scope.names.lookup x == some .local) = true) : ∀ y d, compLook F scope look y = some d → upd (compLook F scope look) x d0 y = some d := fun y d e => by
  unfold upd
  by_cases hy : y = x
  · subst hy
    unfold compLook seen at e
    rw [beq_iff_eq.mp hx] at e
    simp at e
  · rw [if_neg hy]; exact e
theorem genLook_upds {scope : Scope} {x y : Str} {a b : PD} (hx : (scope.names.lookup x == some .local) = true) (hy : (scope.names.lookup y == some .local) = true) : ∀ z d, genLook F scope look z = some d → upds (genLook F scope look) [x, y] [a, b] z = some d := fun z d e => by
  show upd (upd (genLook F scope look) x a) y b z = some d
  unfold upd
  have h1 : z ≠ x := fun q => by subst q; unfold genLook seenG at e; rw [beq_iff_eq.mp hx] at e; simp at e
  have h2 : z ≠ y := fun q => by subst q; unfold genLook seenG at e; rw [beq_iff_eq.mp hy] at e; simp at e
  rw [if_neg h2, if_neg h1]; exact e
end
end Mine
end

section -- E1
open PySem PySem.Calls PySem.W PyProof.Rows PySem.SeqAt PySem.MeetsSeq
set_option maxRecDepth 100000
set_option linter.unusedVariables false
namespace Mine
section
variable {prog : Program} {w : World} {H : Heap} {hk : PD → Int} {n m : Nat} {F : Fm} {wc : List Str} {look : Look} {own : Own} {A : Around} {B : Bs} {s s' : Shared} {L L' Lw : Led} {env : Env} {E : Value → Shared → Prop} {K : Frag} {G : Goal}
theorem closFrom_none (cells : List (Str × Addr)) : ∀ (names : List (Str × NameKind)) (acc : List (Str × Addr)), (names.filter fun y => y.2 == .free) = [] → closFrom cells names acc = acc
  | [], _, _ => rfl
  | (y, k) :: r, acc, h => by
    rw [List.filter_cons] at h
    unfold closFrom
    cases hk : k == NameKind.free with
    | true => rw [show (((y, k) : Str × NameKind).2 == NameKind.free) = true from hk, if_pos rfl] at h; cases h
    | false =>
      rw [show (((y, k) : Str × NameKind).2 == NameKind.free) = false from hk, if_neg (by decide)] at h
      rw [if_neg (by decide)]; exact closFrom_none cells r acc h
theorem closFrom_one (cells : List (Str × Addr)) {z : Str} : ∀ (names : List (Str × NameKind)) (acc : List (Str × Addr)), (names.filter fun y => y.2 == .free) = [(z, .free)] → closFrom cells names acc = (z, (cells.lookup z).getD 0) :: acc
  | [], _, h => nomatch h
  | (y, k) :: r, acc, h => by
    rw [List.filter_cons] at h
    unfold closFrom
    cases hk : k == NameKind.free with
    | true =>
      rw [show (((y, k) : Str × NameKind).2 == NameKind.free) = true from hk, if_pos rfl] at h
      obtain ⟨h1, h2⟩ := List.cons.inj h
      cases h1
      rw [if_pos rfl]; exact closFrom_none cells r _ h2
    | false =>
      rw [show (((y, k) : Str × NameKind).2 == NameKind.free) = false from hk, if_neg (by decide)] at h
      rw [if_neg (by decide)]; exact closFrom_one cells r acc h
/-- a code's record is borne as well -/
theorem St.addRec {D : Addr} {o : Obj} {x : Str} (st : St hk H B F wc env look own L s) (ho : s.heap.get? D = some o) (b : B.own D) (hr : RecAt o x) : St hk H B F wc env look own (L.or fun b o' => b = D ∧ o' = o) s := by
  have sol : Good H D o := ⟨.inr (.inr (st.mine b)), st.pre.inv.new (st.mine b)⟩
  refine ⟨{ st.pre with led := st.pre.led.or ?_, view := fun y d' e => ?_ }, st.inv0, st.no, st.pure, fun b o' e => ?_, fun b o' e => .inl (st.sub b o' e), fun p hp => ?_, st.nodup, ?_, fun y c' h0 h1 h2 => ?_, st.cells⟩
  · rintro b o' ⟨rfl, rfl⟩; exact ⟨ho, sol⟩
  · obtain ⟨v, r, i⟩ := st.pre.view y d' e; exact ⟨v, r, i.mono fun _ _ => .inl⟩
  · rcases e with e | ⟨rfl, rfl⟩
    · exact st.base b o' e
    · exact .inr b
  · obtain ⟨a', b', c', d1', d2'⟩ := st.ownAt p hp
    refine ⟨a'.mono (fun _ _ => .inl) rfl, b', fun o' e => ?_, d1', d2'⟩
    rcases e with e | ⟨e, _⟩
    · exact c' o' e
    · exact a'.noRec _ _ (e ▸ ho) hr
  · obtain ⟨la, lb, m, hm⟩ := st.loc
    refine ⟨la, fun o' e => ?_, m, hm⟩
    rcases e with e | ⟨e, _⟩
    · exact lb o' e
    · exact RecAt.ns hm _ _ (e ▸ ho) hr
  · obtain ⟨ca, cb, v, hv⟩ := st.cel y c' h0 h1 h2
    refine ⟨ca, fun o' e => ?_, v, hv⟩
    rcases e with e | ⟨e, _⟩
    · exact cb o' e
    · exact RecAt.cell hv _ _ (e ▸ ho) hr
theorem codeAmong_app {pos : Pos} {cv : Value} {l1 l2 : Int} {c' : Value} (l : List Value) (h : TriplesOk l) (hc : codeAmong pos (l ++ [rawInt l1, rawInt l2, c']) = some cv) : codeAmong pos l = some cv ∨ ((pos.line : Int) = l1 ∧ cv = c') := by
  fun_induction TriplesOk l with
  | case1 =>
    simp [codeAmong, rawInt] at hc
    exact .inr ⟨hc.1.1.symm, hc.2.symm⟩
  | case2 a t b u x rest ih =>
    simp only [List.cons_append, codeAmong] at hc ⊢
    split at hc
    · rename_i h1; rw [if_pos h1]; exact .inl hc
    · rename_i h1; rw [if_neg h1]; exact ih h hc
  | case3 l h1 h2 => exact h.elim
theorem specT_fun {q q' : Addr × (Nat → Str)} (h : q ∈ specT) (h' : q' ∈ specT) (e : q.1 = q'.1) : q = q' := by
  simp only [specT, List.mem_cons, List.not_mem_nil, or_false] at h h'
  rcases h with rfl | rfl <;> rcases h' with rfl | rfl <;> first | rfl | (exact absurd e (by decide))
/-- what a def statement in a def asks -/
structure DefOk (K : Frag) (H : Heap) (F : Fm) (name : Str) (params : Arguments) (body : List Stmt) (scope : Scope) (pos : Pos) (fp : FuncData) (c P : Addr) (nm : Nat → Str) : Prop where
  code : F.code = some c
  tab : ∃ ps, H.IsCode c P ps ∧ H.TableAt c P ps
  np : P ≠ cStatics
  sp : (P, nm) ∈ specT
  qn : ∃ q, F.qual = some q ∧ ∀ env : Env, env.scope = F.sc → env.qual = q → qualnameIn env name name = nm pos.line
  fp : fp.params = params ∧ fp.body = .stmts body ∧ fp.scope = scope ∧ fp.defaults = .none ∧ fp.kwdefaults = .none
  d0 : params.defaults = []
  k0 : params.kw_defaults = []
  an : ∀ env, annTrees params none env = []
theorem exec_defin {name : Str} {params : Arguments} {body : List Stmt} {scope : Scope} {pos : Pos} {fp : FuncData} {fr : Option (Str × Str)} {c P : Addr} {nm : Nat → Str} {Q : Flow → Shared → Prop} (X : Env0 K H) (D : DefOk K H F name params body scope pos fp c P nm)
    (hx : F.sc.names.lookup name = some .local ∨ (F.sc.names.lookup name = some .cell ∧ name ∈ wc)) (hh : A.handled = none) (st : St hk H B F wc env look own L s) (hB : ∀ c' oc x, s.heap.get? c' = some oc → H.get? c' = none → RecAt oc x → L c' oc ∨ B.own c')
    (hfr : match fr with | none => (scope.names.filter fun y => y.2 == .free) = [] | some (y, x) => (scope.names.filter fun y => y.2 == .free) = [(y, .free)] ∧ ∃ l ol t, env.cells.lookup y = some l ∧ L l ol ∧ ol.data = .cell (some (.str x t)))
    (k : ∀ s' L', (∀ a o, L a o → L' a o) → St hk H B F wc env (upd look name (.clo fp fr)) own L' s' → Q .next s') : wpAny (model prog w) A (exec (.FunctionDef name params body [] none [] scope none name pos) env) Q E s := by
  refine nestDef_K D.d0 D.k0 (D.an env) ?_
  obtain ⟨q, hq, hqn⟩ := D.qn
  have hqn := hqn env st.pre.scope (st.pre.qual q hq)
  have inv := st.pre.inv
  -- the closure
  have hcl : ∃ clos, closureFor scope env = pure clos ∧ ∀ L₂ : Led, (∀ a o, L a o → L₂ a o) → match fr with | none => clos = [] | some (y, x) => ∃ l ol t, clos = [(y, l)] ∧ L₂ l ol ∧ ol.data = .cell (some (.str x t)) := by
    cases fr with
    | none =>
      have e : closFrom env.cells scope.names [] = [] := closFrom_none _ _ _ hfr
      refine ⟨[], ?_, fun _ _ => rfl⟩
      rw [← e]
      refine closureFor_eq fun y hy e' => ?_
      have : y ∈ scope.names.filter fun y => y.2 == .free := List.mem_filter.mpr ⟨hy, by rw [e']; rfl⟩
      rw [hfr] at this; cases this
    | some p =>
      obtain ⟨y, x⟩ := p
      obtain ⟨h1, l, ol, t, h2, h3, h4⟩ := hfr
      have e : closFrom env.cells scope.names [] = [(y, l)] := by rw [closFrom_one _ _ _ h1, h2]; rfl
      refine ⟨[(y, l)], ?_, fun L₂ sub => ⟨l, ol, t, rfl, sub _ _ h3, h4⟩⟩
      rw [← e]
      refine closureFor_eq fun z hz e' => ?_
      have : z ∈ scope.names.filter fun y => y.2 == .free := List.mem_filter.mpr ⟨hz, by rw [e']; rfl⟩
      rw [h1] at this
      obtain rfl := List.mem_singleton.mp this
      exact ⟨l, h2⟩
  obtain ⟨clos, hcl, hclo⟩ := hcl
  obtain ⟨ps, hc, ht⟩ := inv.tabs c P D.tab D.np
  obtain ⟨⟨o0, hH0⟩, ps', hP', htr, hsp⟩ := inv.spec _ D.sp
  have e0 : ps' = ps := by
    have e1 : s.heap.get? P = some (tabObj ps') := hP'
    have e2 : s.heap.get? P = some (tabObj ps) := ht.2
    rw [e1] at e2
    injection e2 with e2
    injection e2 with _ _ e2
    injection e2
  subst e0
  have ch : CodeHd s.heap c P := CodeHd.of hc ht
  have hgl := Ns.keep X.glob inv.kept
  have hbu : s.heap.BuiltinsAt (mgK K) P := by
    obtain ⟨bm, ob, h1, h2, h3, h4, h5, h6⟩ := X.bmain
    have h3' := inv.get h3 (by rw [h4]; simp)
    refine ⟨bm, ob, h1, h2, fun q => ?_, fun q => ?_, h3', h4, h5, h6⟩
    · obtain ⟨o, es, ep, e, hd, _⟩ := hgl
      rw [← q, h3'] at e; cases e; rw [h6] at hd; cases hd
    · rw [q, hP'] at h3'; cases h3'; cases h4
  have hgP : mainGlobals ≠ P := fun q => by
    obtain ⟨o, es, ep, e, hd, _⟩ := hgl
    rw [q, hP'] at e; cases e; cases hd
  -- behind the making
  have fin : ∀ (c' : Addr) (oc : Obj) (ctv doc : Value) (h' : Heap) (tk : Nat) (ob : Obj), Pure H s { s with heap := h', toks := tk } → h'.get? c' = some oc → H.get? c' = none → RecAt oc (qualnameIn env name name) → (L c' oc ∨ B.own c') →
      ob.cls ≠ .none → ob.isFreed = false → ob.data = .func (fnX name (qualnameIn env name name) params body scope clos .none .none doc (((mgK K) "__name__").getD .none) none (.ref c') ctv) →
      wpAny (model prog w) A (storeName env name (.ref h'.objs.size)) (fun _ s'' => Q .next s'') E { s with heap := h'.push ob, toks := tk } := fun c' oc ctv doc h' tk ob q hoc hHc hrec hLB hob hfr' hdat => by
    have q1 : Pure H { s with heap := h', toks := tk } { s with heap := h'.push ob, toks := tk } := .push q.inv _
    have qq := q.trans q1
    have st1 := st.step q
    have st2 := st1.step q1
    have gc : Good H c' oc := ⟨.inr (.inr hHc), inv.new hHc⟩
    have oc' : (h'.push ob).get? c' = some oc := Heap.get?_push_of_some _ hoc
    -- the code is borne as well
    have add : ∃ L₃, St hk H B F wc env look own L₃ { s with heap := h'.push ob, toks := tk } ∧ (∀ a o, L a o → L₃ a o) ∧ L₃ c' oc ∧ L₃ h'.objs.size ob := by
      rcases hLB with h | h
      · exact ⟨_, st2, fun _ _ e => .inl (.inl e), .inl (.inl h), .inr (Fresh.push hfr' ⟨.inl hob, q.inv.new (q.inv.none (get_size _))⟩)⟩
      · exact ⟨_, st2.addRec oc' h hrec, fun _ _ e => .inl (.inl (.inl e)), .inr ⟨rfl, rfl⟩, .inl (.inr (Fresh.push hfr' ⟨.inl hob, q.inv.new (q.inv.none (get_size _))⟩))⟩
    obtain ⟨L₃, st3, sub3, l1, l2⟩ := add
    refine st3.store (d := .clo fp fr) (.clo ⟨ob, fnX name (qualnameIn env name name) params body scope clos .none .none doc (((mgK K) "__name__").getD .none) none (.ref c') ctv, c', oc, ?_⟩) hx fun s'' st'' => k s'' L₃ sub3 st''
    obtain ⟨f1, f2, f3, f4, f5⟩ := D.fp
    obtain ⟨vs, t, r1, r2⟩ := hrec
    refine ⟨vs, t, l2, hob, hdat, ⟨f1.symm, f2.symm, f3.symm, rfl, rfl, f4.symm, f5.symm⟩, ⟨rfl, l1, r1, r2⟩, ?_⟩
    have := hclo L₃ sub3
    cases fr with
    | none => exact this
    | some p => exact this
  cases hf : codeAmong pos ps'.toList with
  | some cv =>
    obtain ⟨c', oc, rfl, h1, h2, h3⟩ := hsp pos cv hf
    refine makeFunction_hit hcl st.pre.glob hgl (st.pre.code c D.code) ch hP' htr hf hbu fun ctv doc h' tk hk' hsz => ?_
    have q : Pure H s { s with heap := h', toks := tk } := .all inv hk'
    exact fin c' oc ctv doc h' tk _ q (hk' _ _ h1) h2 (by rw [hqn]; exact h3) (hB _ _ _ h1 h2 h3) (by simp) rfl rfl
  | none =>
    refine makeFunction_K hcl st.pre.glob hgl (st.pre.code c D.code) ch hP' htr hf hgP hbu fun c' ctv doc h' tk hx hge hlt hrec htb => ?_
    obtain ⟨c₂, oc, vs, t, e2, hoc, hd, hv⟩ := hrec
    cases e2
    have hcP : c ≠ P := by
      obtain ⟨_, _, _, _, _, _, _, _, _, _, _, _, _, _, _, _, _, _, hne⟩ := ch
      exact hne
    have ch' : CodeHd h' c P := by
      obtain ⟨o, vs, file, tf, flags, tg, inF, text, tt, e, r⟩ := ch
      exact ⟨o, vs, file, tf, flags, tg, inF, text, tt, hx _ _ hcP e, r⟩
    have hcn : s.heap.get? c' = none := Heap.get?_none_of_le hge
    have htr' : TriplesOk (ps' ++ #[rawInt pos.line, rawInt pos.col, .ref c']).toList := by
      rw [Array.toList_append]; exact TriplesOk_snoc _ _ _ _ htr
    have q : Pure H s { s with heap := h', toks := tk } := by
      refine .table inv D.tab D.np ht hx (ch'.code htb htr') (ch'.tab htb) fun q hq e => ?_
      obtain rfl := specT_fun hq D.sp e
      refine ⟨⟨o0, hH0⟩, _, htb, htr', fun pos' cv hcv => ?_⟩
      rw [Array.toList_append] at hcv
      rcases codeAmong_app _ htr hcv with h | ⟨h1, rfl⟩
      · obtain ⟨c1, oc1, e1, e2, e3, e4⟩ := hsp pos' cv h
        exact ⟨c1, oc1, e1, hx _ _ (fun z => by rw [z, hH0] at e3; cases e3) e2, e3, e4⟩
      · refine ⟨c', oc, rfl, hoc, inv.none hcn, ⟨vs, t, hd, ?_⟩⟩
        rw [hv, hqn]
        have : pos'.line = pos.line := Int.ofNat.inj h1
        rw [this]
    exact fin c' oc ctv doc h' tk _ q hoc (inv.none hcn) ⟨vs, t, hd, hv⟩ (.inr (.inl (st.pure.none hcn))) (by simp) rfl rfl
end
end Mine
end

section -- E2
open PySem PySem.Calls PySem.W PyProof.Rows PySem.SeqAt PySem.MeetsSeq
set_option maxRecDepth 100000
set_option linter.unusedVariables false
namespace Mine
section
variable {prog : Program} {w : World} {H : Heap} {hk : PD → Int} {n m : Nat} {F : Fm} {wc : List Str} {look : Look} {own : Own} {A : Around} {B : Bs} {s s' : Shared} {L L' Lw : Led} {env : Env} {E : Value → Shared → Prop} {K : Frag} {G : Goal}
theorem execs_append : ∀ (xs ys : List Stmt) (env : Env), execs (xs ++ ys) env = (do match ← execs xs env with | .next => execs ys env | f => pure f)
  | [], ys, env => by
    show execs ys env = (pure Flow.next >>= _)
    rw [pure_bind]
  | x :: xs, ys, env => by
    show execs (x :: (xs ++ ys)) env = _
    rw [execs_cons, execs_cons, bind_assoc]
    refine bind_congr fun f => ?_
    cases f with
    | next => exact execs_append xs ys env
    | _ => first | rfl | (rw [pure_bind])
/-- some statements, and what comes behind them -/
theorem raw_seg {xs ys : List Stmt} {P : Look → Own → Prop} {Q : Flow → Shared → Prop} (h : EX prog w hk H n F wc look own xs ⟨P, fun _ _ => False, fun _ _ => False⟩) (ok : Ok n A) (st : St hk H B F wc env look own L s)
    (k : ∀ l o L' s', P l o → St hk H B F wc env l o L' s' → wpAny (model prog w) A (execs ys env) Q E s') : wpAny (model prog w) A (execs (xs ++ ys) env) Q E s := by
  rw [execs_append]
  refine wpAny_bind (wpAny_mono (h A B s L env ok st) (fun f s' e => ?_) fun _ _ f => f.elim)
  cases f with
  | next => obtain ⟨l, o, L', h1, h2⟩ := e; exact k l o L' s' h1 h2
  | brk => exact e.elim
  | cont => obtain ⟨l, o, L', h1, h2⟩ := e; exact h1.elim
  | ret v => obtain ⟨l, o, L', d, h1, h2⟩ := e; exact h1.elim
/-- the records of the codes made -/
def RecLed (H h : Heap) : Led := fun a o => h.get? a = some o ∧ H.get? a = none ∧ ∃ x, RecAt o x
theorem RecLed.holds (inv : Inv H s.heap) : Holds H (RecLed H s.heap) s.heap := fun a o e => ⟨e.1, .inr (.inr e.2.1), inv.new e.2.1⟩
/-- a datum that knows no code -/
def NoRec (d : PD) : Prop := ∀ (hk : PD → Int) (L M : Led) (v : Value), (∀ a o, M a o → ∃ x, RecAt o x) → Is hk (L.or M) v d → Is hk L v d
theorem NoRec.val (v : Value) : NoRec (.val v) := fun _ _ _ _ _ i => by cases i; exact .val _
theorem IsAll.noRec {M : Led} (hM : ∀ a o, M a o → ∃ x, RecAt o x) : ∀ {vs : List Value} {ds : List PD}, (∀ d ∈ ds, NoRec d) → IsAll hk (L.or M) vs ds → IsAll hk L vs ds
  | [], [], _, _ => .nil
  | [], _ :: _, _, h => nomatch h
  | _ :: _, [], _, h => nomatch h
  | v :: vs, d :: ds, hd, h => by
    cases h with
    | cons h1 h2 => exact .cons (hd d (.head _) _ _ _ _ hM h1) (IsAll.noRec hM (fun d h => hd d (.tail _ h)) h2)
theorem NoRec.tup {ds : List PD} (h : ∀ d ∈ ds, NoRec d) : NoRec (.tup ds) := fun _ L M v hM i => by
  cases i with
  | tup h1 h2 h3 h4 =>
    refine .tup (h1.elim id fun e => ?_) h2 h3 (IsAll.noRec hM h h4)
    obtain ⟨x, hx⟩ := hM _ _ e
    exact (RecAt.seq h3 x hx).elim
/-- a def of K's with a def in it -/
theorem FN.defD {a : Addr} {ps : List PD} {ks : List (Str × PD)} {names : List Str} {ds : List PD} {d : PD} {pre rest : List Stmt} {name : Str} {params : Arguments} {body : List Stmt} {scope : Scope} {pos : Pos} {fp : FuncData} {P : Addr} {nm : Nat → Str} {l : Look} (X : Env0 K H) (hok : defOk K a = true) (hb : BINDS prog w hk H (fdOf K a) ps ks names ds)
    (hn : names.Nodup) (hkind : (names.all fun x => (fdOf K a).scope.names.lookup x == some .local || (fdOf K a).scope.names.lookup x == some .cell) = true)
    (hbody : bodyOf (fdOf K a) = pre ++ .FunctionDef name params body [] none [] scope none name pos :: rest)
    (h1 : EX prog w hk H n ⟨(fdOf K a).scope, some (codeOf (fdOf K a)), some ((fdOf K a).qualname ++ ".<locals>.")⟩ [] (fun x => (names.zip ds).lookup x) [] pre ⟨fun l' o => l' = l ∧ o = [], fun _ _ => False, fun _ _ => False⟩)
    (D : DefOk K H ⟨(fdOf K a).scope, some (codeOf (fdOf K a)), some ((fdOf K a).qualname ++ ".<locals>.")⟩ name params body scope pos fp (codeOf (fdOf K a)) P nm) (hx : (fdOf K a).scope.names.lookup name = some .local)
    (hfr : (scope.names.filter fun y => y.2 == .free) = []) (hd : NoRec d)
    (h2 : EX prog w hk H n ⟨(fdOf K a).scope, some (codeOf (fdOf K a)), some ((fdOf K a).qualname ++ ".<locals>.")⟩ [] (upd l name (.clo fp none)) [] rest (Rets d)) : FN prog w hk H (n + 1) (.val (.ref a)) ps ks d := fun A s L fv vs kvs ok inv led iv i1 i2 i3 => by
  cases iv
  have DA := DefAt.ofK X.at_ hok
  obtain ⟨o, ho, hc, hdd⟩ := DA.obj
  obtain ⟨oc, vc, tc, e1, e2, e3, e4, e5⟩ := DA.code
  refine wpAny_call (codeAny_call_function ok.room (inv.get ho hc) hdd DA.co DA.gen DA.body ⟨_, oc, vc, tc, e1, inv.get e2 e3, e4, e5⟩ ?_)
  refine wpAny_mono (hb A.in1 s L vs kvs inv led i1 i2 i3) (fun b s₁ hb₁ => ?_) fun _ _ f => f.elim
  obtain ⟨q, hbn, hbi⟩ := hb₁
  rw [DA.clo]
  have hkind' : ∀ x ∈ names, (fdOf K a).scope.names.lookup x = some .local ∨ (fdOf K a).scope.names.lookup x = some .cell := fun x hx => by have := List.all_eq_true.mp hkind x hx; simpa using this
  refine wpAny_newFunctionEnv_cells DA.kind (fun x hx => ?_) fun env he s' ic => ⟨?_, codeAny_func ?_⟩
  · have hxn : x.1 ∈ names := hbn ▸ List.mem_map.mpr ⟨x, hx, rfl⟩
    refine (hkind' _ hxn).imp id fun e => ⟨e, cellsFrom_has _ _ _ _ (.inl (mem_of_lookup e))⟩
  · obtain ⟨h', tk, rfl, hkp⟩ := ic.done
    exact q.inv.lim.keeps hkp
  · have led₁ : Holds H ((L.or (Fresh H s.heap s₁.heap)).or (RecLed H s₁.heap)) s₁.heap := ((led.keep q.keep).or .fresh).or (RecLed.holds q.inv)
    have st := FN.begin (q := some ((fdOf K a).qualname ++ ".<locals>.")) (wc := []) DA.kind DA.free DA.glob DA.blt e1 q.inv led₁ hbn (hbi.mono fun _ _ => .inl) hn hkind' (by subst he; exact ⟨⟨rfl, rfl, rfl, rfl, rfl⟩, rfl⟩) ic (fun z e => by
      have e9 : env.qual = (fdOf K a).qualname ++ ".<locals>." := by rw [he]; rfl
      exact e9.trans (Option.some.inj e))
    rw [hbody]
    refine raw_seg h1 (ok.deeper env) st fun l' o L' s₂ hl st₂ => ?_
    obtain ⟨rfl, rfl⟩ := hl
    refine wpAny_execs_cons (exec_defin (fr := .none) X D (.inl hx) (ok.deeper env).handled st₂ (fun c' oc x g1 g2 g3 => ?_) hfr fun s₃ L₃ sub st₃ => ?_)
    · cases z : s₁.heap.get? c' with
      | none => exact .inr (.inl z)
      | some o' =>
        have g4 := st₂.pure.keep c' o' z (.inr (.inr g2)) fun h => h
        have : o' = oc := Option.some.inj (g4.symm.trans g1)
        exact .inl (st₂.sub _ _ (.inr ⟨this ▸ z, g2, x, g3⟩))
    · refine wpAny_mono (h2 (A.deeper env) _ _ _ env (ok.deeper env) st₃) (fun f s₄ e => ?_) fun _ _ f => f.elim
      cases f with
      | next => obtain ⟨_, _, _, e, _⟩ := e; exact e.elim
      | cont => obtain ⟨_, _, _, e, _⟩ := e; exact e.elim
      | brk => exact e.elim
      | ret v =>
        obtain ⟨q₂, i⟩ := e.post fun _ => id
        refine ⟨q.trans q₂, ?_⟩
        have i2 : Is hk (((L.or (Fresh H s.heap s₁.heap)).or (Fresh H s₁.heap s₄.heap)).or (RecLed H s₁.heap)) v d := i.mono fun a o e => by
          rcases e with (e | e) | e
          · exact .inl (.inl e)
          · exact .inr e
          · exact .inl (.inr e)
        exact (hd _ _ _ _ (fun a o e => e.2.2) i2).step q.keep q₂.keep
end
end Mine
end

section -- E3
open PySem PySem.Calls PySem.W PyProof.Rows PySem.SeqAt PySem.MeetsSeq
set_option maxRecDepth 100000
set_option linter.unusedVariables false
namespace Mine
/-- a table by words -/
def sEs (xs : List (Str × PD)) : List (PD × PD) := xs.map fun p => (.str p.1, p.2)
def putS (name : Str) (d : PD) : List (Str × PD) → List (Str × PD)
  | [] => [(name, d)]
  | p :: r => if p.1 == name then (p.1, d) :: r else p :: putS name d r
section
variable {prog : Program} {w : World} {H : Heap} {hk : PD → Int} {n m : Nat} {F : Fm} {wc : List Str} {look : Look} {own : Own} {A : Around} {B : Bs} {s s' : Shared} {L L' L₂ Lw : Led} {env : Env} {E : Value → Shared → Prop} {K : Frag} {G : Goal}
theorem putL_is {name : Str} {hsh : Int} {tk : Tok} {v : Value} {d : PD} (hh : hsh = hk (.str name)) (iv : Is hk L v d) : ∀ {ds : List DictEntry} {xs : List (Str × PD)}, IsEs hk L ds (sEs xs) → IsEs hk L (putL name hsh (.str name tk) v ds) (sEs (putS name d xs))
  | [], [], _ => .cons hh (.str _ _) iv .nil
  | [], _ :: _, i => nomatch i
  | _ :: _, [], i => nomatch i
  | e :: ds, p :: xs, i => by
    obtain ⟨eh, ek, ev⟩ := e
    cases i with
    | cons h1 h2 h3 h4 =>
      have h2 : Is hk L ek (.str p.1) := h2
      unfold putL putS
      cases h2 with
      | str _ t =>
        have e1 : (Value.str p.1 t).isStr name = (p.1 == name) := rfl
        show IsEs hk L (if (Value.str p.1 t).isStr name = true then _ else _) _
        rw [e1]
        cases q : p.1 == name with
        | true => exact .cons h1 (.str _ _) iv h4
        | false => exact .cons h1 (.str _ _) h3 (putL_is hh iv h4)
theorem getL_is {name : Str} : ∀ {ds : List DictEntry} {xs : List (Str × PD)}, IsEs hk L ds (sEs xs) → (getL name ds).isSome = true ∧ ds.any (·.refKey) = false
  | [], [], _ => ⟨rfl, rfl⟩
  | [], _ :: _, i => nomatch i
  | _ :: _, [], i => nomatch i
  | e :: ds, p :: xs, i => by
    obtain ⟨eh, ek, ev⟩ := e
    cases i with
    | cons h1 h2 h3 h4 =>
      have h2 : Is hk L ek (.str p.1) := h2
      obtain ⟨g1, g2⟩ := getL_is (name := name) h4
      cases h2 with
      | str _ t =>
        have r : (List.any (⟨eh, .str p.1 t, ev⟩ :: ds) fun x => x.refKey) = false := by rw [List.any_cons, g2]; rfl
        refine ⟨?_, r⟩
        unfold getL
        split
        · rfl
        · rw [r]; rfl
/-- an own attribute is set: the steps -/
theorem osa_raw {x dx C : Addr} {name : Str} {v : Value} {tk : Tok} {ds : List DictEntry} {ep : Nat} {R : Result → Shared → Prop} (X : K.In s.heap) (I : InstAt s.heap x (instObj C dx) C (some (dictOf ds ep)))
    (hp : plainOver K C = true) (ht : takerIn K C name = some none) (hh : (clsIn K C).any (·.hasDict) = true)
    (hr : (getL name ds).isSome = true) (hz : (putL name (PyData.keyHash w.params name) (.str name s.toks) v ds).length ≤ 1000)
    (h : ∀ h', Heap.SameBut dx s.heap h' → h'.get? dx = some (dictOf (putL name (PyData.keyHash w.params name) (.str name s.toks) v ds) (putN name ds ep)) → R (.ok (.ret .none)) { s with heap := h', toks := s.toks + 1 }) :
    codeAny (model prog w) A (.call (.builtin "object.__setattr__") ⟨[.ref x, .str name tk, v], []⟩) R s := by
  have D : s.heap.get? dx = some (dictOf ds ep) := I.dict
  refine osa_open X I hp ht fun b => ?_
  obtain ⟨cd, hc, hd'⟩ := any_some hh
  obtain ⟨hx, -, -, -⟩ := I
  refine wpAny_bind (wpAny_pure (wpAny_bind (wpAny_bind (wpAny_loadPart hx (wpAny_bind ((looks_clsIn X hc).here ?_))))))
  rw [hd']
  refine wpAny_pure (a := some dx) (wpAny_bind (wpAny_pure (wpAny_bind ?_)))
  unfold nsSet
  refine wpAny_bind (wpAny_bind (wpAny_askSetting (wpAny_pure (wpAny_bind (wpAny_mkText (wpAny_bind (wpAny_loadPart D ?_)))))))
  have c : (!ds.toArray.any (·.key.isStr name) && ds.toArray.any (·.refKey)) = false := by
    rw [← Array.any_toList, ← Array.any_toList]
    show (!ds.any _ && ds.any _) = false
    unfold getL at hr
    split at hr
    · rename_i en he
      rw [List.any_eq_true.mpr ⟨en, List.mem_of_find?_eq_some he, List.find?_some he⟩]; rfl
    · split at hr
      · cases hr
      · rename_i z; rw [Bool.not_eq_true] at z; rw [z, Bool.and_false]
  dsimp only
  rw [aRefKeyMayBeTheName_at, c]
  have e := putName_dict name (PyData.keyHash w.params name) (.str name s.toks) v ds ep
  have D' : (s.heap.update dx (Obj.putName name (PyData.keyHash w.params name) (.str name s.toks) v)).get? dx = some (dictOf (putL name (PyData.keyHash w.params name) (.str name s.toks) v ds) (putN name ds ep)) := by
    rw [← e]; exact Heap.get?_update_self _ D (by rw [e]; rfl)
  refine wpAny_updatePart D ?_
  refine wpAny_bind (wpAny_lookBehind D' (pastItsLine_dict (by rw [List.size_toArray, sizeLine_eq]; omega)) ?_)
  exact wpAny_pure (h _ (Heap.SameBut.update ..) D')
theorem set_raw {x dx C : Addr} {name : Str} {v : Value} {ds : List DictEntry} {ep : Nat} {Q : Unit → Shared → Prop} (X : K.In s.heap) (I : InstAt s.heap x (instObj C dx) C (some (dictOf ds ep)))
    (hs : findIn K (.ref C) "__setattr__" = some (some (.builtin "object.__setattr__"))) (hp : plainOver K C = true) (ht : takerIn K C name = some none) (hh : (clsIn K C).any (·.hasDict) = true)
    (hr : (getL name ds).isSome = true) (hz : (putL name (PyData.keyHash w.params name) (.str name (s.toks + 1)) v ds).length ≤ 1000)
    (h : ∀ h', Heap.SameBut dx s.heap h' → h'.get? dx = some (dictOf (putL name (PyData.keyHash w.params name) (.str name (s.toks + 1)) v ds) (putN name ds ep)) → Q () { s with heap := h', toks := s.toks + 2 }) : wpAny (model prog w) A (setAttr (.ref x) name v) Q E s :=
  set_plain X I hs (osa_raw (s := { s with toks := s.toks + 1 }) X I hp ht hh hr hz fun h' h1 h2 => h h' h1 h2)
/-- what an own class must be for its attributes to be set -/
def setOk (K : Frag) (C : Addr) (name : Str) : Bool := (findIn K (.ref C) "__setattr__" == some (some (.builtin "object.__setattr__"))) && plainOver K C && (takerIn K C name == some none) && (clsIn K C).any (·.hasDict)
theorem St.setAttr {a C D : Addr} {name : Str} {v : Value} {d : PD} {xs : List (Str × PD)} {Q : Unit → Shared → Prop} (X : Env0 K H) (hC : setOk K C name = true) (st : St (hkW w) H B F wc env look ((D, .dct (sEs xs)) :: (a, .ins C D) :: own) L s) (iv : Is (hkW w) L v d) (hz : xs.length ≤ 900)
    (k : ∀ s', St (hkW w) H B F wc env look ((D, .dct (sEs (putS name d xs))) :: (a, .ins C D) :: own) L s' → Q () s') : wpAny (model prog w) A (setAttr (.ref a) name v) Q E s := by
  unfold setOk at hC
  simp only [Bool.and_eq_true, beq_iff_eq] at hC
  obtain ⟨⟨⟨c1, c2⟩, c3⟩, c4⟩ := hC
  obtain ⟨⟨ds, ep, hD, ies⟩, _⟩ := st.ownAt _ (.head _)
  have hx : s.heap.get? a = some (instObj C D) := (st.ownAt _ (.tail _ (.head _))).1
  have eD : (dictOf ds.toList ep) = ({ cls := .type "dict", data := .dict ds ep } : Obj) := by simp
  have I : InstAt s.heap a (instObj C D) C (some (dictOf ds.toList ep)) := ⟨hx, rfl, rfl, by rw [eD]; exact hD⟩
  obtain ⟨g1, _⟩ := getL_is (name := name) ies
  have hlen : ∀ (l : List DictEntry), (putL name (PyData.keyHash w.params name) (.str name (s.toks + 1)) v l).length ≤ l.length + 1 := fun l => by
    induction l with
    | nil => simp [putL]
    | cons e r ih => unfold putL; split <;> simp <;> omega
  have hl2 : ds.toList.length = xs.length := by rw [ies.length, sEs, List.length_map]
  refine set_raw (X.in st.pre.inv) I c1 c2 c3 c4 g1 (by have := hlen ds.toList; omega) fun h' hs hD' => k _ ?_
  refine st.own1 (tk := s.toks + 2) hs ⟨_, _, hD', ?_⟩
  exact putL_is rfl iv ies
theorem EX.setAttr {x : Str} {px apos pos : Pos} {name : Str} {e : Expr} {a C D : Addr} {d : PD} {xs : List (Str × PD)} {rest : List Stmt} (X : Env0 K H) (hx : look x = some (.val (.ref a))) (h : EV prog w (hkW w) H n F look e d) (hC : setOk K C name = true)
    (k : EX prog w (hkW w) H n F wc look ((D, .dct (sEs (putS name d xs))) :: (a, .ins C D) :: own) rest G) (hz : xs.length ≤ 900 := by exact Nat.le_of_ble_eq_true rfl)
    (hs : ∀ env, swapsWith e (some (.Attribute (.Name x px) name apos)) pos.line env = pure false := by intro _; rfl) (hdb : (x == ("__debug__" : Str)) = false := by rfl) :
    EX prog w (hkW w) H n F wc look ((D, .dct (sEs xs)) :: (a, .ins C D) :: own) (.Assign [.Attribute (.Name x px) name apos] e pos :: rest) G := .step fun A B s L env ok st =>
  plainObj_wpAny_Assign_Attribute (h.use ok st.pre fun v s₁ q₁ i₁ p₁ => (EV.name (prog := prog) (w := w) (n := n) hx hdb).use ok p₁ fun o s₂ q₂ i₂ p₂ => by
    cases i₂
    exact St.setAttr X hC ((st.step q₁).step q₂) (i₁.mono fun _ _ => .inl) hz fun s₃ st₃ => ⟨_, _, _, k, st₃⟩) (hs env)
theorem St.perm {own' : Own} (st : St hk H B F wc env look own L s) (h : own.Perm own') : St hk H B F wc env look own' L s :=
  { st with ownAt := fun p hp => st.ownAt p (h.mem_iff.mpr hp), nodup := (h.map (·.1)).nodup_iff.mp st.nodup }
theorem EX.perm {own' : Own} {ss : List Stmt} (h : own.Perm own') (k : EX prog w hk H n F wc look own' ss G) : EX prog w hk H n F wc look own ss G := fun A B s L env ok st => k A B s L env ok (st.perm h)
/-- new objects of one's own come in -/
theorem St.addOwns {o : Own} (st : St hk H B F wc env look own L s) (q : Pure H s s') (sub : ∀ a o, L a o → L₂ a o) (ho : Holds H L₂ s'.heap) (hb : ∀ a o, L₂ a o → L a o ∨ s.heap.get? a = none)
    (hO : ∀ p ∈ o, OwnAt hk L₂ s'.heap p.1 p.2 ∧ s.heap.get? p.1 = none ∧ ∀ ob, ¬ L₂ p.1 ob) (nd : (o.map (·.1)).Nodup) : St hk H B F wc env look (o ++ own) L₂ s' := by
  have st' := st.stepL q sub ho hb
  refine { st' with ownAt := fun p hp => ?_, nodup := ?_ }
  · rcases List.mem_append.mp hp with hp | hp
    · obtain ⟨a, b, c⟩ := hO p hp
      refine ⟨a, .inl (st.pure.none b), c, fun e => ?_, fun x c' e => ?_⟩
      · obtain ⟨_, _, m, hm⟩ := st.loc
        obtain ⟨o, ho⟩ := Ns.there hm
        rw [← e, b] at ho; cases ho
      · obtain ⟨o, ho⟩ := st.pre.cthere x c' e
        exact fun z => by rw [z, b] at ho; cases ho
    · exact st'.ownAt p hp
  · rw [List.map_append]
    refine List.nodup_append.mpr ⟨nd, st.nodup, fun a ha b hb' e => ?_⟩
    obtain ⟨p, hp, rfl⟩ := List.mem_map.mp ha
    obtain ⟨p', hp', rfl⟩ := List.mem_map.mp hb'
    obtain ⟨o, ho⟩ := (st.ownAt p' hp').1.there
    rw [← e, (hO p hp).2.1] at ho; cases ho
/-- a datum and new objects of one's own -/
def PostN (hk : PD → Int) (H : Heap) (L : Led) (s : Shared) (K : PD → Own → Prop) : Value → Shared → Prop := fun v s' => ∃ d o L', K d o ∧ Pure H s s' ∧ Is hk L' v d ∧ (∀ a ob, L a ob → L' a ob) ∧ Holds H L' s'.heap ∧ (∀ a ob, L' a ob → L a ob ∨ s.heap.get? a = none) ∧
  (∀ p ∈ o, OwnAt hk L' s'.heap p.1 p.2 ∧ s.heap.get? p.1 = none ∧ ∀ ob, ¬ L' p.1 ob) ∧ (o.map (·.1)).Nodup
def FNO (prog : Program) (w : World) (hk : PD → Int) (H : Heap) (n : Nat) (f : PD) (ps : List PD) (ks : List (Str × PD)) (K : PD → Own → Prop) : Prop :=
  ∀ (A : Around) (s : Shared) (L : Led) (fv : Value) (vs : List Value) (kvs : List (Str × Value)), Ok n A → Inv H s.heap → Holds H L s.heap → Is hk L fv f → IsAll hk L vs ps → IsAll hk L (kvs.map (·.2)) (ks.map (·.2)) → kvs.map (·.1) = ks.map (·.1) →
    wpAny (model prog w) A (call fv vs kvs) (PostN hk H L s K) (fun _ _ => False) s
def EVN (prog : Program) (w : World) (hk : PD → Int) (H : Heap) (n : Nat) (F : Fm) (look : Look) (e : Expr) (K : PD → Own → Prop) : Prop :=
  ∀ (A : Around) (s : Shared) (L : Led) (env : Env), Ok n A → Pre hk H F env look L s → wpAny (model prog w) A (eval e env) (PostN hk H L s K) (fun _ _ => False) s
theorem PostN.step {K : PD → Own → Prop} {v : Value} {s'' : Shared} (q : Pure H s s') (h : PostN hk H (L.or (Fresh H s.heap s'.heap)) s' K v s'') : PostN hk H L s K v s'' := by
  obtain ⟨d, o, L', k, q', i, sub, ho, hb, hO, nd⟩ := h
  refine ⟨d, o, L', k, q.trans q', i, fun a ob e => sub _ _ (.inl e), ho, fun a ob e => ?_, fun p hp => ?_, nd⟩
  · rcases hb a ob e with (e | e) | e
    · exact .inl e
    · exact .inr e.1
    · exact .inr (q.keep.none e)
  · obtain ⟨a, b, c⟩ := hO p hp
    exact ⟨a, q.keep.none b, c⟩
theorem EVN.call {fe : Expr} {es : List Expr} {kws : List Keyword} {pos : Pos} {f : PD} {ps : List PD} {ks : List (Str × PD)} {K : PD → Own → Prop} (hf : EV prog w hk H n F look fe f) (ha : ES prog w hk H n F look es ps) (hkw : EK prog w hk H n F look kws ks) (kp : KP prog w hk H f)
    (fn : FNO prog w hk H n f ps ks K)
    (hp : ∀ pos env, (backTo pos (starEach es env)).any (·.1) = false := by intro _ _; rfl)
    (harm : ∀ env, eval (.Call fe es kws pos) env = (do callWith pos (← eval fe env) [] (backTo pos (starEach es env)) (backToKw pos (keywordEach kws env))) := by intro _; rfl) :
    EVN prog w hk H n F look (.Call fe es kws pos) K := fun A s L env ok p => by
  rw [harm]
  refine wpAny_bind (hf.use ok p fun v s' q i p' => ?_)
  refine callWith_any (evalArgs_any (hp pos env) (hkw.1 pos env).1 (ha.use ok p' fun vs s₁ q₁ i₁ p₁ => ?_))
  refine wpAny_mono (hkw.2 A s₁ _ env pos ok p₁) (fun kvs s₂ h₂ => ?_) fun _ _ f => f
  obtain ⟨q₂, i₂⟩ := h₂
  have p₂ := p₁.pure q₂
  have i' : Is hk (((L.or (Fresh H s.heap s'.heap)).or (Fresh H s'.heap s₁.heap)).or (Fresh H s₁.heap s₂.heap)) v f := i.mono fun _ _ e => .inl (.inl e)
  refine wpAny_mono (kp A s₂ _ v p₂.inv p₂.led i') (fun _ s₃ e => ?_) fun _ _ f => f.elim
  subst e
  rw [(hkw.1 pos env).2, List.nil_append]
  have hl : (ks.map (·.1)).length = kvs.length := by rw [List.length_map, i₂.length, List.length_map]
  refine wpAny_mono (fn A s₃ _ v vs ((ks.map (·.1)).zip kvs) ok p₂.inv p₂.led i' (i₁.mono fun _ _ => .inl) ?_ ?_) (fun r s₄ h₄ => ?_) fun _ _ f => f
  · have : ((ks.map (·.1)).zip kvs).map (·.2) = kvs := List.map_snd_zip (Nat.le_of_eq hl.symm)
    rw [this]; exact i₂
  · exact List.map_fst_zip (Nat.le_of_eq hl)
  · exact PostN.step q (PostN.step q₁ (PostN.step q₂ h₄))
theorem EX.assignN {x : Str} {p' pos : Pos} {e : Expr} {K : PD → Own → Prop} {rest : List Stmt} (h : EVN prog w hk H n F look e K) (k : ∀ d o, K d o → EX prog w hk H n F wc (upd look x d) (o ++ own) rest G)
    (hx : F.sc.names.lookup x = some .local ∨ (F.sc.names.lookup x = some .cell ∧ x ∈ wc) := by first | exact .inl rfl | exact .inr ⟨rfl, by simp⟩)
    (hs : ∀ env, swapsWith e (some (.Name x p')) pos.line env = pure false := by intro _; rfl) : EX prog w hk H n F wc look own (.Assign [.Name x p'] e pos :: rest) G := .step fun A B s L env ok st =>
  wpAny_Assign_Name (wpAny_mono (h A s L env ok st.pre) (fun v s' e => by
    obtain ⟨d, o, L', kd, q, i, sub, ho, hb, hO, nd⟩ := e
    exact (st.addOwns q sub ho hb hO nd).store i hx fun s'' st'' => ⟨_, _, _, k d o kd, st''⟩) fun _ _ f => f.elim) (hs env)
/-- an object made, frozen with its table -/
theorem St.freezeInst {a C D : Addr} {xs : List (Str × PD)} (st : St hk H B F wc env look ((D, .dct (sEs xs)) :: (a, .ins C D) :: own) L s) : ∃ L', St hk H B F wc env look own L' s ∧ Is hk L' (.ref a) (.inst C (sEs xs)) ∧ (∀ a o, L a o → L' a o) := by
  obtain ⟨L₁, st₁, i₁, sub₁, _⟩ := st.freeze
  obtain ⟨L₂, st₂, i₂, sub₂, _⟩ := st₁.freeze
  have i₂' : Is hk L₂ (.ref a) (.ins C D) := i₂
  cases i₂' with
  | ins h => exact ⟨L₂, st₂, .inst h (i₁.mono sub₂), fun a o e => sub₂ _ _ (sub₁ _ _ e)⟩
/-- an object made and handed back at once -/
theorem EX.retInst {e : Expr} {pos : Pos} {rest : List Stmt} {C : Addr} {xs : List (Str × PD)} (h : EVN prog w hk H n F look e (fun d o => ∃ a D, d = .val (.ref a) ∧ o = [(D, .dct (sEs xs)), (a, .ins C D)])) (k : G.R (.inst C (sEs xs)) own) : EX prog w hk H n F wc look own (.Return (some e) pos :: rest) G := fun A B s L env ok st =>
  wpAny_execs_cons (wpAny_Return_some (wpAny_mono (h A s L env ok st.pre) (fun v s' e => by
    obtain ⟨d, o, L', ⟨a, D, rfl, rfl⟩, q, i, sub, ho, hb, hO, nd⟩ := e
    cases i
    obtain ⟨L₂, st₂, i₂, _⟩ := St.freezeInst (st.addOwns q sub ho hb hO nd)
    exact ⟨_, _, _, _, k, st₂, i₂⟩) fun _ _ f => f.elim))
end
end Mine
end

section -- E4
open PySem PySem.Calls PySem.W PyProof.Rows PySem.SeqAt PySem.MeetsSeq
set_option maxRecDepth 100000
set_option linter.unusedVariables false
namespace Mine
section
variable {prog : Program} {w : World} {H : Heap} {hk : PD → Int} {n m : Nat} {F : Fm} {wc : List Str} {look : Look} {own : Own} {A : Around} {B : Bs} {s s' s₁ : Shared} {L L' L₂ Lw : Led} {env : Env} {E : Value → Shared → Prop} {K : Frag} {G : Goal}
theorem Ok.make {C : Addr} {rest : List Value} {kw : List (Str × Value)} (ok : Ok (n + 1) A) : Ok n (A.under (.builtin "type.__call__" ⟨.ref C :: rest, kw⟩)) :=
  ⟨ok.handled, by rw [depth_under_kw]; have := ok.depth; omega, by
    have e : (A.under (.builtin "type.__call__" ⟨.ref C :: rest, kw⟩)).units = A.units + 1 := rfl
    rw [e]; have := ok.units; omega⟩
/-- reckoned from an earlier state -/
theorem St.since (st : St hk H ⟨s₁, L, fun _ => False⟩ F wc env look own L' s') (q : Pure H s s₁) (inv : Inv H s.heap) : St hk H ⟨s, L, fun _ => False⟩ F wc env look own L' s' where
  pre := st.pre
  inv0 := inv
  no := fun _ e => e.elim
  pure := (PureX.of q).join st.pure fun _ e => e.elim
  base := fun a o e => (st.base a o e).imp id fun e => e.elim (fun e => .inl (q.keep.none e)) fun e => e.elim
  sub := st.sub
  ownAt := fun p hp => let ⟨a, b, c⟩ := st.ownAt p hp; ⟨a, b.elim (fun e => .inl (q.keep.none e)) fun e => e.elim, c⟩
  nodup := st.nodup
  loc := let ⟨a, b⟩ := st.loc; ⟨a.elim (fun e => .inl (q.keep.none e)) fun e => e.elim, b⟩
  cel := fun x c h0 h1 h2 => let ⟨a, b⟩ := st.cel x c h0 h1 h2; ⟨a.elim (fun e => .inl (q.keep.none e)) fun e => e.elim, b⟩
  cells := st.cells
/-- what an own class must be for instances of it to be made -/
def clsOk (K : Frag) (C fI : Addr) : Bool := makesIn K C && (findIn K (.ref C) "__init__" == some (some (.ref fI))) && (typeIn K (.ref fI) == some (.type "function"))
/-- an object is made -/
theorem FNO.cls {C fI : Addr} {ps : List PD} {ks : List (Str × PD)} {names : List Str} {ds : List PD} {K' : PD → Own → Prop} (wc : List Str) (X : Env0 K H) (hC : clsOk K C fI = true) (hok : defOk K fI = true)
    (hb : ∀ x : Addr, BINDS prog w hk H (fdOf K fI) (.val (.ref x) :: ps) ks names (.val (.ref x) :: ds))
    (hn : names.Nodup) (hkind : (names.all fun x => (fdOf K fI).scope.names.lookup x == some .local || (fdOf K fI).scope.names.lookup x == some .cell) = true)
    (h : ∀ x D, EX prog w hk H n ⟨(fdOf K fI).scope, some (codeOf (fdOf K fI)), none⟩ wc (fun z => (names.zip (.val (.ref x) :: ds)).lookup z) [(D, .dct (sEs [])), (x, .ins C D)] (bodyOf (fdOf K fI)) ⟨fun _ o => K' (.val (.ref x)) o, fun _ _ => False, fun _ _ => False⟩) : FNO prog w hk H (n + 2) (.val (.ref C)) ps ks K' := fun A s L fv vs kvs ok inv led iv i1 i2 i3 => by
  cases iv
  unfold clsOk at hC
  simp only [Bool.and_eq_true, beq_iff_eq] at hC
  obtain ⟨⟨c1, c2⟩, c3⟩ := hC
  obtain ⟨h0, g, d, t, os⟩ := s
  have XK := X.in inv
  have e1 : h0.get? h0.objs.size = none := get_size h0
  have e2 : h0.get? (h0.objs.size + 1) = none := Heap.get?_none_of_le (Nat.le_succ _)
  have g1 : ((h0.push emptyDict).push (instObj C h0.objs.size)).get? h0.objs.size = some emptyDict := Heap.get?_push_of_some _ (Heap.get?_push_size _ rfl)
  have g2 : ((h0.push emptyDict).push (instObj C h0.objs.size)).get? (h0.objs.size + 1) = some (instObj C h0.objs.size) := by
    have := Heap.get?_push_size (h0.push emptyDict) (o := instObj C h0.objs.size) rfl
    rwa [Heap.size_push] at this
  have q0 : Pure H ⟨h0, g, d, t, os⟩ ⟨(h0.push emptyDict).push (instObj C h0.objs.size), g, d, t, os⟩ :=
    .all (t := t) inv fun b o e => Heap.get?_push_of_some _ (Heap.get?_push_of_some _ e)
  refine wpAny_call (make_core (makes_of XK c1) (looks_findIn XK c2) (fun self => bind_fn XK self c3) (.inl rfl) ?_)
  have DA := DefAt.ofK X.at_ hok
  obtain ⟨o, ho, hc, hdd⟩ := DA.obj
  obtain ⟨oc, vc, tc, f1, f2, f3, f4, f5⟩ := DA.code
  have ok' : Ok (n + 1) (A.under (.builtin "type.__call__" ⟨.ref C :: vs, kvs⟩)) := ok.make
  refine codeAny_call_function ok'.room (q0.inv.get ho hc) hdd DA.co DA.gen DA.body ⟨_, oc, vc, tc, f1, q0.inv.get f2 f3, f4, f5⟩ ?_
  refine wpAny_mono (hb (h0.objs.size + 1) _ _ L (.ref (h0.objs.size + 1) :: vs) kvs q0.inv (led.keep q0.keep) (.cons (.val _) i1) i2 i3) (fun b s₁ hb₁ => ?_) fun _ _ f => f.elim
  obtain ⟨q, hbn, hbi⟩ := hb₁
  rw [DA.clo]
  have hkind' : ∀ x ∈ names, (fdOf K fI).scope.names.lookup x = some .local ∨ (fdOf K fI).scope.names.lookup x = some .cell := fun x hx => by have := List.all_eq_true.mp hkind x hx; simpa using this
  refine wpAny_newFunctionEnv_cells DA.kind (fun x hx => ?_) fun env he s' ic => ⟨?_, codeAny_func ?_⟩
  · have hxn : x.1 ∈ names := hbn ▸ List.mem_map.mpr ⟨x, hx, rfl⟩
    refine (hkind' _ hxn).imp id fun e => ⟨e, cellsFrom_has _ _ _ _ (.inl (mem_of_lookup e))⟩
  · obtain ⟨h', tk, rfl, hkp⟩ := ic.done
    exact q.inv.lim.keeps hkp
  · have led₁ : Holds H (L.or (Fresh H ((h0.push emptyDict).push (instObj C h0.objs.size)) s₁.heap)) s₁.heap := ((led.keep q0.keep).keep q.keep).or .fresh
    have st := FN.begin (q := none) (wc := wc) DA.kind DA.free DA.glob DA.blt f1 q.inv led₁ hbn hbi hn hkind' (by subst he; exact ⟨⟨rfl, rfl, rfl, rfl, rfl⟩, rfl⟩) ic (fun z e => nomatch e)
    have qq : Pure H ⟨h0, g, d, t, os⟩ s₁ := q0.trans q
    have st1 := st.since qq inv
    obtain ⟨h', tk, hs', hkp⟩ := ic.done
    have keep1 : ∀ b ob, ((h0.push emptyDict).push (instObj C h0.objs.size)).get? b = some ob → Solid H b ob → s'.heap.get? b = some ob := fun b ob e so => by
      rw [hs']; exact hkp _ _ (q.keep.keep _ _ e so)
    have nL : ∀ b, h0.get? b = none → ((h0.push emptyDict).push (instObj C h0.objs.size)).get? b ≠ none → ∀ ob, ¬ (L.or (Fresh H ((h0.push emptyDict).push (instObj C h0.objs.size)) s₁.heap)) b ob := fun b e0 e1 ob e => by
      rcases e with e | e
      · have := (led _ _ e).1; rw [e0] at this; cases this
      · exact e1 e.1
    have sz1 : ∀ b ob, ((h0.push emptyDict).push (instObj C h0.objs.size)).get? b = some ob → b < s₁.heap.objs.size := fun b ob e => by
      obtain ⟨o', e'⟩ := q.keep.there b ob e; exact Heap.lt_size e'
    have apart : ∀ b ob, ((h0.push emptyDict).push (instObj C h0.objs.size)).get? b = some ob → b ≠ env.locals ∧ ∀ x c, env.cells.lookup x = some c → c ≠ b := fun b ob e => by
      have l1 := sz1 b ob e
      have l2 : env.locals = s₁.heap.objs.size := by subst he; rfl
      refine ⟨fun z => ?_, fun x c hc' z => ?_⟩
      · rw [z, l2] at l1; exact Nat.lt_irrefl _ l1
      · have l3 := ic.above x c (mem_of_lookup hc')
        rw [l2, z] at l3
        exact Nat.lt_irrefl _ (Nat.lt_trans l1 l3)
    have st2 : St hk H ⟨⟨h0, g, d, t, os⟩, _, fun _ => False⟩ _ wc env _ [(h0.objs.size, .dct (sEs [])), (h0.objs.size + 1, .ins C h0.objs.size)] _ s' := { st1 with
      ownAt := fun p hp => by
        rcases List.mem_cons.mp hp with rfl | hp
        · exact ⟨⟨_, _, keep1 _ _ g1 (.inl (by simp)), .nil⟩, .inl e1, nL _ e1 (by rw [g1]; simp), apart _ _ g1⟩
        · obtain rfl := List.mem_singleton.mp hp
          exact ⟨keep1 _ _ g2 (.inl (by simp)), .inl e2, nL _ e2 (by rw [g2]; simp), apart _ _ g2⟩
      nodup := by simp }
    refine wpAny_mono (h _ _ _ _ _ _ env (ok'.deeper env) st2) (fun f s₂ e => ?_) fun _ _ f => f.elim
    cases f with
    | ret v => obtain ⟨_, _, _, _, e, _⟩ := e; exact e.elim
    | cont => obtain ⟨_, _, _, e, _⟩ := e; exact e.elim
    | brk => exact e.elim
    | next =>
      obtain ⟨l, o, L', hK, st3⟩ := e
      refine ⟨rfl, .val (.ref (h0.objs.size + 1)), o, L', hK, st3.pure.pure fun _ e => e.elim, .val _, fun a ob e => st3.sub _ _ (.inl e), st3.pre.led, fun a ob e => ?_, fun p hp => ?_, st3.nodup⟩
      · rcases st3.base a ob e with (e | e) | e | e
        · exact .inl e
        · exact .inr (q0.keep.none e.1)
        · exact .inr e
        · exact e.elim
      · obtain ⟨a, b, c, _⟩ := st3.ownAt p hp
        exact ⟨a, b.elim id False.elim, c⟩
end
end Mine
end

section -- Z1
open PySem PySem.Calls PySem.W PyProof.Rows PySem.SeqAt PySem.MeetsSeq
set_option maxRecDepth 100000
set_option linter.unusedVariables false
namespace Mine
section
variable {prog : Program} {w : World} {A : Around} {E : Value → Shared → Prop} {s : Shared}
theorem nextOf_tup {it t : Addr} {i : Nat} {items : Array Value} {x : Value} {Q : Value → Shared → Prop} (hit : s.heap.IsTupleIter it t i) (ht : s.heap.IsTuple t items) (hx : items[i]? = some x)
    (hQ : ∀ h', h'.IsTupleIter it t (i + 1) → Heap.SameBut it s.heap h' → Q x { s with heap := h' }) : wpAny (model prog w) A (Builtin.SmallTypes.nextOf (.ref it)) Q E s := by
  obtain ⟨o, ho, hc, hd⟩ := id hit
  obtain ⟨ol, hol, _, nl, hdl⟩ := ht
  unfold Builtin.SmallTypes.nextOf
  refine wpAny_bind (wpAny_callSpecial?_slot (name := Str.ofString "__next__") hit.typeIs PySem.F.slot_tuple_iterator_next (wpAny_call_entry PySem.F.slot_tuple_iterator_next hit.typeIs PySem.F.entry_tuple_iterator_next ?_ (PySem.F.args_tuple_iterator_next_1 _)))
  show wpAny _ _ (field (.ref it) 0 >>= _) _ _ s
  refine wpAny_bind (wpAny_field ho hd (x := .ref t) rfl ?_)
  show wpAny _ _ (if (Value.ref t == Value.none) = true then _ else _) _ _ s
  rw [if_neg (show ¬ ((Value.ref t == Value.none) = true) from Bool.false_ne_true)]
  show wpAny _ _ (field (.ref it) 1 >>= _) _ _ s
  refine wpAny_bind (wpAny_field ho hd (x := .int i 0) rfl ?_)
  show wpAny _ _ (seqItems? (.ref t) >>= _) _ _ s
  refine wpAny_bind (wpAny_seqItems hol hdl ?_)
  simp only [Int.toNat_natCast, hx]
  refine wpAny_bind (wpAny_setField ho hd (by simp) (wpAny_pure ⟨x, rfl, wpAny_pure (hQ _ ?_ (Heap.SameBut.update ..))⟩))
  exact ⟨_, Heap.get?_update_self _ ho (Obj.isFreed_of_fields (Obj.data_mapFields hd _)), (Obj.cls_mapFields ..).trans hc, by
    rw [Obj.data_mapFields hd]; simp [rawInt]⟩
/-- a row and a tuple, hand in hand -/
def ZS (z TI TO i1 i2 l1 l2 : Addr) (xs ys : Array Value) (f0 : Value) (i : Nat) (h : Heap) : Prop :=
  IsZip h z TI TO f0 ∧ IsPair h TI (.ref i1) (.ref i2) ∧ (∃ a b, IsPair h TO a b) ∧ h.IsListIter i1 l1 i ∧ h.IsTupleIter i2 l2 i ∧ h.IsList l1 xs ∧ h.IsTuple l2 ys
theorem zipT_item {z TI TO i1 i2 l1 l2 : Addr} {i : Nat} {xs ys : Array Value} {x y : Value} {Q : Option Value → Shared → Prop} (D : ZipApart z TI TO i1 i2 l1 l2) (st : ZS z TI TO i1 i2 l1 l2 xs ys .none i s.heap)
    (hx : xs[i]? = some x) (hy : ys[i]? = some y)
    (hQ : ∀ h', ZS z TI TO i1 i2 l1 l2 xs ys (rawInt s.heap.objs.size) (i + 1) h' → IsPair h' s.heap.objs.size x y → (∀ c o, c ≠ z → c ≠ TO → c ≠ i1 → c ≠ i2 → s.heap.get? c = some o → h'.get? c = some o) → Q (some (.ref s.heap.objs.size)) { s with heap := h' }) :
    wpAny (model prog w) A (pyNext (.ref z)) Q E s := by
  obtain ⟨hz, hTI, ⟨a, b, hTO⟩, h1, h2, hl1, hl2⟩ := st
  have hT : s.TypeIs (.ref z) "zip" := ⟨_, hz, rfl⟩
  unfold pyNext
  refine wpAny_bind (wpAny_attempt (wpAny_callSpecial?_slot (name := Str.ofString "__next__") hT PySem.F.slot_zip_next (wpAny_call_entry PySem.F.slot_zip_next hT PySem.F.entry_zip_next ?_ (PySem.F.args_zip_next_1 _))))
  show wpAny _ _ (field (.ref z) 2 >>= _) _ _ _
  refine wpAny_bind (wpAny_field hz rfl (x := .bool false) rfl ?_)
  show wpAny _ _ (field (.ref z) 3 >>= _) _ _ _
  refine wpAny_bind (wpAny_field hz rfl (x := .ref TI) rfl ?_)
  refine wpAny_bind (wpAny_seqItems hTI rfl ?_)
  show wpAny _ _ (Builtin.SmallTypes.ownedTupleIsFree (.ref z) >>= _) _ _ _
  refine wpAny_bind ?_
  unfold Builtin.SmallTypes.ownedTupleIsFree
  refine wpAny_bind (wpAny_field hz rfl (x := .none) rfl (wpAny_pure ?_))
  simp only [if_true]
  refine wpAny_bind (wpAny_rule ?_)
  refine wpAny_bind (wpAny_field hz rfl (x := .ref TO) rfl ?_)
  refine wpAny_bind (wpAny_setField_rec hz (by simp) fun h₁ hz₁ hs₁ => ?_)
  replace hz₁ : IsZip h₁ z TI TO .ellipsis := hz₁
  refine wpAny_bind ?_
  simp only [List.zipIdx_cons, List.zipIdx_nil, List.forIn_cons, List.forIn_nil]
  refine wpAny_bind (wpAny_bind (wpAny_onRaise ?_))
  show wpAny _ _ (Builtin.SmallTypes.nextOf (.ref i1) >>= _) _ _ _
  refine wpAny_bind (wpAny_nextOf_list_item (h1.extBut hs₁.extBut D.i1z) (hl1.extBut hs₁.extBut D.l1z) hx fun h₂ h1₂ hs₂ => wpAny_pure ?_)
  have hTO₂ : IsPair h₂ TO a b := hs₂.extBut _ _ D.TOi1 (hs₁.extBut _ _ D.TOz hTO)
  refine wpAny_bind (wpAny_seqItems hTO₂ rfl ?_)
  refine wpAny_bind (wpAny_updateSeq_pair hTO₂ fun h₃ hTO₃ hs₃ => ?_)
  replace hTO₃ : IsPair h₃ TO x b := hTO₃
  refine wpAny_bind (wpAny_letGo (wpAny_pure ?_))
  refine wpAny_bind (wpAny_bind (wpAny_onRaise ?_))
  show wpAny _ _ (Builtin.SmallTypes.nextOf (.ref i2) >>= _) _ _ _
  refine wpAny_bind (nextOf_tup (((h2.extBut hs₁.extBut D.i2z).extBut hs₂.extBut D.i12.symm).extBut hs₃.extBut D.TOi2.symm)
    (((hl2.extBut hs₁.extBut D.l2z).extBut hs₂.extBut D.l2i1).extBut hs₃.extBut D.l2TO) hy fun h₄ h2₄ hs₄ => wpAny_pure ?_)
  have hTO₄ : IsPair h₄ TO x b := hs₄.extBut _ _ D.TOi2 hTO₃
  refine wpAny_bind (wpAny_seqItems hTO₄ rfl ?_)
  refine wpAny_bind (wpAny_updateSeq_pair hTO₄ fun h₅ hTO₅ hs₅ => ?_)
  replace hTO₅ : IsPair h₅ TO x y := hTO₅
  refine wpAny_bind (wpAny_letGo (wpAny_pure (wpAny_pure ?_)))
  refine wpAny_bind (wpAny_seqItems hTO₅ rfl ?_)
  refine wpAny_bind (wpAny_newTuple ?_)
  have hsz : h₅.objs.size = s.heap.objs.size := by rw [hs₅.1, hs₄.1, hs₃.1, hs₂.1, hs₁.1]
  have hz₅ : IsZip h₅ z TI TO .ellipsis := hs₅.extBut _ _ D.TOz.symm (hs₄.extBut _ _ D.i2z.symm (hs₃.extBut _ _ D.TOz.symm (hs₂.extBut _ _ D.i1z.symm hz₁)))
  have hk₅ : ∀ c o, c ≠ z → c ≠ TO → c ≠ i1 → c ≠ i2 → s.heap.get? c = some o → h₅.get? c = some o := fun c o c1 c2 c3 c4 e =>
    hs₅.extBut _ _ c2 (hs₄.extBut _ _ c4 (hs₃.extBut _ _ c2 (hs₂.extBut _ _ c3 (hs₁.extBut _ _ c1 e))))
  have h1₅ : h₅.IsListIter i1 l1 (i + 1) := ((h1₂.extBut hs₃.extBut D.TOi1.symm).extBut hs₄.extBut D.i12).extBut hs₅.extBut D.TOi1.symm
  have h2₅ : h₅.IsTupleIter i2 l2 (i + 1) := h2₄.extBut hs₅.extBut D.TOi2.symm
  have hzlt : z < h₅.objs.size := Heap.lt_size hz₅
  show wpAny _ _ (Builtin.SmallTypes.ownedTupleHandOut (.ref z) (.ref h₅.objs.size) >>= _) _ _ _
  refine wpAny_bind ?_
  unfold Builtin.SmallTypes.ownedTupleHandOut
  have hz₆ : IsZip (h₅.push { cls := .type "tuple", data := .seq #[x, y] }) z TI TO .ellipsis := Heap.get?_push_of_some _ hz₅
  refine wpAny_bind (wpAny_setField_rec hz₆ (by simp) fun h₇ hz₇ hs₇ => ?_)
  replace hz₇ : IsZip h₇ z TI TO (rawInt h₅.objs.size) := hz₇
  refine wpAny_setField_rec hz₇ (by simp) fun h₈ hz₈ hs₈ => ?_
  replace hz₈ : IsZip h₈ z TI TO (rawInt h₅.objs.size) := hz₈
  have up : ∀ c o, c ≠ z → h₅.get? c = some o → h₈.get? c = some o := fun c o c1 e => hs₈.extBut _ _ c1 (hs₇.extBut _ _ c1 (Heap.get?_push_of_some _ e))
  have hT₈ : IsPair h₈ h₅.objs.size x y := hs₈.extBut _ _ (Nat.ne_of_gt hzlt) (hs₇.extBut _ _ (Nat.ne_of_gt hzlt) (Heap.get?_push_size _ rfl))
  rw [hsz] at hz₈ hT₈
  refine wpAny_pure ⟨_, rfl, ?_⟩
  refine wpAny_pure ?_
  show Q (some (.ref h₅.objs.size)) _
  rw [hsz]
  have up2 : ∀ c o, c ≠ z → c ≠ TO → c ≠ i1 → c ≠ i2 → s.heap.get? c = some o → h₈.get? c = some o := fun c o c1 c2 c3 c4 e => up c o c1 (hk₅ c o c1 c2 c3 c4 e)
  exact hQ h₈ ⟨hz₈, up2 _ _ D.TIz D.TITO D.TIi1 D.TIi2 hTI, ⟨_, _, up _ _ D.TOz hTO₅⟩, h1₅.at fun o e => up _ o D.i1z e, h2₅.at fun o e => up _ o D.i2z e, hl1.at fun o e => up2 _ o D.l1z D.l1TO D.l1i1 D.l1i2 e, hl2.at fun o e => up2 _ o D.l2z D.l2TO D.l2i1 D.l2i2 e⟩ hT₈ up2
theorem zipT_end {z TI TO i1 i2 l1 l2 : Addr} {i : Nat} {xs ys : Array Value} {Q : Option Value → Shared → Prop} (hh : A.handled = none) (D : ZipApart z TI TO i1 i2 l1 l2) (st : ZS z TI TO i1 i2 l1 l2 xs ys .none i s.heap) (hx : xs[i]? = none)
    (hQ : ∀ h', (∀ c o, c ≠ z → c ≠ TO → c ≠ i1 → c ≠ i2 → s.heap.get? c = some o → h'.get? c = some o) → Q none { s with heap := h' }) : wpAny (model prog w) A (pyNext (.ref z)) Q E s := by
  obtain ⟨hz, hTI, ⟨a, b, hTO⟩, h1, h2, hl1, hl2⟩ := st
  have hT : s.TypeIs (.ref z) "zip" := ⟨_, hz, rfl⟩
  unfold pyNext
  refine wpAny_bind (wpAny_attempt (wpAny_callSpecial?_slot (name := Str.ofString "__next__") hT PySem.F.slot_zip_next (wpAny_call_entry PySem.F.slot_zip_next hT PySem.F.entry_zip_next ?_ (PySem.F.args_zip_next_1 _))))
  show wpAny _ _ (field (.ref z) 2 >>= _) _ _ _
  refine wpAny_bind (wpAny_field hz rfl (x := .bool false) rfl ?_)
  show wpAny _ _ (field (.ref z) 3 >>= _) _ _ _
  refine wpAny_bind (wpAny_field hz rfl (x := .ref TI) rfl ?_)
  refine wpAny_bind (wpAny_seqItems hTI rfl ?_)
  show wpAny _ _ (Builtin.SmallTypes.ownedTupleIsFree (.ref z) >>= _) _ _ _
  refine wpAny_bind ?_
  unfold Builtin.SmallTypes.ownedTupleIsFree
  refine wpAny_bind (wpAny_field hz rfl (x := .none) rfl (wpAny_pure ?_))
  simp only [if_true]
  refine wpAny_bind (wpAny_rule ?_)
  refine wpAny_bind (wpAny_field hz rfl (x := .ref TO) rfl ?_)
  refine wpAny_bind (wpAny_setField_rec hz (by simp) fun h₁ hz₁ hs₁ => ?_)
  replace hz₁ : IsZip h₁ z TI TO .ellipsis := hz₁
  refine wpAny_bind ?_
  simp only [List.zipIdx_cons, List.zipIdx_nil, List.forIn_cons, List.forIn_nil]
  refine wpAny_bind (wpAny_bind (wpAny_onRaise ?_))
  show wpAny _ _ (Builtin.SmallTypes.nextOf (.ref i1) >>= _) _ _ _
  refine wpAny_bind (wpAny_nextOf_list_end hh (h1.extBut hs₁.extBut D.i1z) (hl1.extBut hs₁.extBut D.l1z) hx fun h₂ e hs₂ he => ?_)
  obtain ⟨oe, hoe, hce⟩ := he
  have hz₂ : IsZip h₂ z TI TO .ellipsis := hs₂ _ _ D.i1z.symm hz₁
  have hez : e ≠ z := fun x => by subst x; rw [hz₂] at hoe; cases hoe; simp at hce
  refine wpAny_setField_rec hz₂ (by simp) fun h₃ _ hs₃ => ?_
  refine wpAny_bind (wpAny_isInstance (T := "StopIteration") (b := true) ⟨oe, hs₃.extBut _ _ hez hoe, hce⟩ isSubtype_stop ?_)
  exact wpAny_pure (hQ _ fun c o c1 _ c3 _ x => hs₃.extBut _ _ c1 (hs₂ _ _ c3 (hs₁.extBut _ _ c1 x)))
end
end Mine
end

section -- Z2
open PySem PySem.Calls PySem.W PyProof.Rows PySem.SeqAt PySem.MeetsSeq
set_option maxRecDepth 100000
set_option linter.unusedVariables false
namespace Mine
abbrev zH1 (h : Heap) (l1 : Addr) : Heap := h.push { cls := .type "list_iterator", data := .fields #[.ref l1, .int 0 0] }
abbrev zH2 (h : Heap) (l1 l2 : Addr) : Heap := (zH1 h l1).push { cls := .type "tuple_iterator", data := .fields #[.ref l2, .int 0 0] }
abbrev zH3 (h : Heap) (l1 l2 : Addr) : Heap := (zH2 h l1 l2).push { cls := .type "tuple", data := .seq #[.ref h.objs.size, .ref (zH1 h l1).objs.size] }
abbrev zH4 (h : Heap) (l1 l2 : Addr) : Heap := (zH3 h l1 l2).push { cls := .type "tuple", data := .seq #[.none, .none] }
abbrev zH5 (h : Heap) (l1 l2 : Addr) : Heap := (zH4 h l1 l2).push { cls := .type "zip", data := .fields #[.none, .bool false, .bool false, .ref (zH2 h l1 l2).objs.size, .ref (zH3 h l1 l2).objs.size] }
theorem meets_zipT (l1 l2 : Addr) (xs ys : Array Value) :
    Meets (Builtin.«zip.__new__» ⟨[.type "zip", .ref l1, .ref l2], []⟩) (fun _ R s => s.heap.IsList l1 xs ∧ s.heap.IsTuple l2 ys ∧
      R (.ok (.ret (.ref (zH4 s.heap l1 l2).objs.size))) { s with heap := zH5 s.heap l1 l2 }) :=
  .of_wp fun prog w A R s h => by
    obtain ⟨hp, g, d, tk, os⟩ := s; obtain ⟨hl1, hl2, h⟩ := h
    have hsub := sub_zip
    have hL1 : Heap.IsList (Shared.heap ⟨hp, g, d, tk, os⟩) l1 xs := hl1
    have hL2 : Heap.IsTuple (Shared.heap ⟨hp.push { cls := .type "list_iterator", data := .fields #[.ref l1, .int 0 0] }, g, d, tk, os⟩) l2 ys := Heap.IsTuple.push hl2 _
    unfold Builtin.«zip.__new__»
    repeat (first | with_reducible refine wpAny_bind ?_ | with_reducible refine wpAny_pure ?_ | with_reducible refine wpAny_holding ?_ | with_reducible refine wpAny_of_eq hsub ?_ | with_reducible refine wpAny_pyIter_list hL1 ?_ | with_reducible refine wpAny_pyIter_tuple hL2 ?_ | with_reducible refine wpAny_alloc' ?_ | with_reducible refine wpAny_fresh' ?_ | ((with_reducible refine wpAny_ite_false ?_ ?_); focus (rfl; done)) | ((with_reducible refine wpAny_ite_true ?_ ?_); focus (rfl; done)) | wp_delta)
    exact ⟨_, rfl, h⟩
section
variable {prog : Program} {w : World} {H : Heap} {hk : PD → Int} {n m : Nat} {F : Fm} {wc : List Str} {look : Look} {own : Own} {A : Around} {B : Bs} {s s' s₁ : Shared} {L L' L₂ Lw : Led} {env : Env} {E : Value → Shared → Prop} {K : Frag} {G : Goal}
theorem call_zipT {l1 l2 : Addr} {xs ys : Array Value} {Q : Value → Shared → Prop} (hl1 : s.heap.IsList l1 xs) (hl2 : s.heap.IsTuple l2 ys) (h : Q (.ref (zH4 s.heap l1 l2).objs.size) { s with heap := zH5 s.heap l1 l2 }) :
    wpAny (model prog w) A (call (.type "zip") [.ref l1, .ref l2]) Q E s := by
  refine callType_new PySem.F.called_zip (by decide) (PySem.F.typeCall_zip_2 _ _) (PySem.F.newCall_zip_2 _ _) (fun obj => PySem.F.args_object_init_3 obj _ _) PySem.F.entry_zip_new
    (meets_zipT l1 l2 xs ys) ⟨hl1, hl2, ?_⟩
  have g5 : (zH5 s.heap l1 l2).get? (zH4 s.heap l1 l2).objs.size = some _ := Heap.get?_push_size _ rfl
  exact ⟨⟨_, g5, rfl⟩, h⟩
/-- a call, as far as the call itself -/
theorem call_raw {fe : Expr} {es : List Expr} {pos : Pos} {f : PD} {ps : List PD} {Q : Value → Shared → Prop} (hf : EV prog w hk H n F look fe f) (ha : ES prog w hk H n F look es ps) (kp : KP prog w hk H f) (ok : Ok n A) (p : Pre hk H F env look L s)
    (k : ∀ v vs s', Pure H s s' → Is hk (L.or (Fresh H s.heap s'.heap)) v f → IsAll hk (L.or (Fresh H s.heap s'.heap)) vs ps → Pre hk H F env look (L.or (Fresh H s.heap s'.heap)) s' → wpAny (model prog w) A (call v vs) Q E s')
    (hp : ∀ pos env, (backTo pos (starEach es env)).any (·.1) = false := by intro _ _; rfl)
    (harm : ∀ env, eval (.Call fe es [] pos) env = (do callWith pos (← eval fe env) [] (backTo pos (starEach es env)) (backToKw pos (keywordEach [] env))) := by intro _; rfl) :
    wpAny (model prog w) A (eval (.Call fe es [] pos) env) Q E s := by
  rw [harm]
  refine wpAny_bind (hf.use ok p fun v s' q i p' => ?_)
  refine callWith_any (evalArgs_any (hp pos env) rfl (ha.use ok p' fun vs s₁ q₁ i₁ p₁ => ?_))
  refine wpAny_mono (EK.nil.2 A s₁ _ env pos ok p₁) (fun kvs s₂ h₂ => ?_) fun _ _ f => f.elim
  obtain ⟨q₂, i₂⟩ := h₂
  obtain rfl := i₂.none0
  have p₂ := p₁.pure q₂
  have i' : Is hk (((L.or (Fresh H s.heap s'.heap)).or (Fresh H s'.heap s₁.heap)).or (Fresh H s₁.heap s₂.heap)) v f := i.mono fun _ _ e => .inl (.inl e)
  refine wpAny_mono (kp A s₂ _ v p₂.inv p₂.led i') (fun _ s₃ e => ?_) fun _ _ f => f.elim
  subst e
  have qq := (q.trans q₁).trans q₂
  have up : ∀ a o, (((L.or (Fresh H s.heap s'.heap)).or (Fresh H s'.heap s₁.heap)).or (Fresh H s₁.heap s₃.heap)) a o → (L.or (Fresh H s.heap s₃.heap)) a o := fun a o e => by
    rcases e with ((e | e) | e) | e
    · exact .inl e
    · exact .inr (e.right (q₁.trans q₂).keep)
    · exact .inr ((e.right q₂.keep).left q.keep)
    · exact .inr (e.left (q.trans q₁).keep)
  refine k v vs s₃ qq (i'.mono up) ((i₁.mono fun _ _ => .inl).mono up) { p₂ with led := (p.led.keep qq.keep).or .fresh, view := fun x d e => ?_ }
  obtain ⟨v, r, i⟩ := p.view x d e
  exact ⟨v, r.keep qq.keep, i.mono fun _ _ => .inl⟩
theorem noRec_get {h : Heap} {a : Addr} {ob : Obj} {x : Str} {o : Obj} (h1 : h.get? a = some ob) (h2 : ∀ x, ¬ RecAt ob x) (e : h.get? a = some o) : ¬ RecAt o x := by
  rw [h1] at e; cases e; exact h2 x
theorem ZS.noRec {z TI TO i1 i2 l1 l2 : Addr} {xs ys : Array Value} {f0 : Value} {i : Nat} {h : Heap} (st : ZS z TI TO i1 i2 l1 l2 xs ys f0 i h) : ∀ b ∈ [z, TI, TO, i1, i2], ∀ o x, h.get? b = some o → ¬ RecAt o x := fun b hb o x e => by
  obtain ⟨hz, hTI, ⟨a, b', hTO⟩, h1, h2, -⟩ := st
  simp only [List.mem_cons, List.not_mem_nil, or_false] at hb
  rcases hb with rfl | rfl | rfl | rfl | rfl
  · refine noRec_get hz (fun x ⟨vs, t, e1, e2⟩ => ?_) e
    cases e1; cases e2
  · exact noRec_get hTI (fun x => RecAt.seq rfl x) e
  · exact noRec_get hTO (fun x => RecAt.seq rfl x) e
  · exact noRec_liter h1 o x e
  · exact noRec_titer h2 o x e
theorem zip_turns {elts : List Expr} {kk : Nat} {pos : Pos} {z TI TO i1 i2 l1 l2 : Addr} {xs ys : Array Value} (hh : A.handled = none) (D : ZipApart z TI TO i1 i2 l1 l2) (hsz : xs.size = ys.size) :
    KTurns prog w A (.Tuple elts kk pos) z [z, TI, TO, i1, i2, l1, l2] [z, TI, TO, i1, i2] xs.size
      (fun i v h => ∃ T x y, v = .ref T ∧ xs[i]? = some x ∧ ys[i]? = some y ∧ h.IsTuple T #[x, y])
      (fun i v h => ∃ T x y, v = .ref T ∧ xs[i]? = some x ∧ ys[i]? = some y ∧ IsPair h T x y ∧ ZS z TI TO i1 i2 l1 l2 xs ys (rawInt T) (i + 1) h ∧ T ≠ z)
      (fun i h => ZS z TI TO i1 i2 l1 l2 xs ys .none i h) where
  sub := fun b hb => by simp at hb ⊢; rcases hb with h | h | h | h | h <;> simp [h]
  frame := fun i h h' st hk => by
    obtain ⟨hz, hTI, ⟨a, b, hTO⟩, h1, h2, hl1, hl2⟩ := st
    exact ⟨hk _ (by simp) _ hz, hk _ (by simp) _ hTI, ⟨a, b, hk _ (by simp) _ hTO⟩, h1.at fun o e => hk _ (by simp) o e, h2.at fun o e => hk _ (by simp) o e, hl1.at fun o e => hk _ (by simp) o e, hl2.at fun o e => hk _ (by simp) o e⟩
  item := fun i s Q E hi st hQ => by
    have hiy : i < ys.size := hsz ▸ hi
    refine zipT_item D st (Array.getElem?_eq_getElem hi) (Array.getElem?_eq_getElem hiy) fun h' st' hT hk => ?_
    refine hQ _ h' s.toks ⟨_, _, _, rfl, Array.getElem?_eq_getElem hi, Array.getElem?_eq_getElem hiy, hT, st', Nat.ne_of_gt (Heap.lt_size st.1)⟩ fun c o hc e => hk c o (fun x => hc (by simp [x])) (fun x => hc (by simp [x])) (fun x => hc (by simp [x])) (fun x => hc (by simp [x])) e
  go := fun i v s Q E hm hQ => by
    obtain ⟨T, x, y, rfl, hx, hy, hT, ⟨hz, hTI, ⟨a, b, hTO⟩, h1, h2, hl1, hl2⟩, hne⟩ := hm
    refine wpAny_letOwnedTupleGo_zip hz fun h' hz' hs' => ?_
    refine hQ h' ⟨T, x, y, rfl, hx, hy, ⟨_, hs'.extBut _ _ hne hT, rfl, _, rfl⟩⟩ ⟨hz', hs'.extBut _ _ D.TIz hTI, ⟨a, b, hs'.extBut _ _ D.TOz hTO⟩, h1.extBut hs'.extBut D.i1z, h2.extBut hs'.extBut D.i2z, hl1.extBut hs'.extBut D.l1z, hl2.extBut hs'.extBut D.l2z⟩ fun c o hc e => hs'.extBut _ _ (fun x => hc (by simp [x])) e
  done := fun s Q E st hQ => zipT_end hh D st (by simp) fun h' hk => hQ h' s.toks fun c o hc e => hk c o (fun x => hc (by simp [x])) (fun x => hc (by simp [x])) (fun x => hc (by simp [x])) (fun x => hc (by simp [x])) e
end
end Mine
end

section -- Z3
open PySem PySem.Calls PySem.W PyProof.Rows PySem.SeqAt PySem.MeetsSeq
set_option maxRecDepth 100000
set_option linter.unusedVariables false
namespace Mine
section
variable {prog : Program} {w : World} {H : Heap} {hk : PD → Int} {n m : Nat} {F : Fm} {wc : List Str} {look : Look} {own : Own} {A : Around} {B : Bs} {s s' s₁ : Shared} {L L' L₂ Lw : Led} {env : Env} {E : Value → Shared → Prop} {K : Frag} {G : Goal}
def zipI : List PD → List PD → List Item
  | a :: r, b :: t => .tup [a, b] :: zipI r t
  | _, _ => []
theorem zipI_get {x : Item} : ∀ (ds es : List PD) (i : Nat), (zipI ds es)[i]? = some x → ∃ a b, ds[i]? = some a ∧ es[i]? = some b ∧ x = .tup [a, b] := by
  intro ds
  induction ds with
  | nil => intro es i h; simp [zipI] at h
  | cons a r ih =>
    intro es i h
    cases es with
    | nil => simp [zipI] at h
    | cons b t =>
      cases i with
      | zero => exact ⟨a, b, rfl, rfl, (Option.some.inj h).symm⟩
      | succ i => exact ih t i h
theorem zipI_length : ∀ {ds es : List PD}, ds.length = es.length → (zipI ds es).length = ds.length
  | [], [], _ => rfl
  | a :: r, b :: t, h => by simp [zipI, zipI_length (Nat.succ.inj h)]
theorem IT.zip {fe e1 e2 : Expr} {pos tpos : Pos} {elts : List Expr} {kk : Nat} {ds1 ds2 : List PD} (hf : EV prog w hk H n F look fe (.val (.type "zip"))) (h1 : EV prog w hk H n F look e1 (.list ds1)) (h2 : EV prog w hk H n F look e2 (.tup ds2)) (hl : ds1.length = ds2.length)
    (hp : ∀ pos env, (backTo pos (starEach [e1, e2] env)).any (·.1) = false := by intro _ _; rfl)
    (hc1 : ∀ env, starEach (e1 :: [e2]) env = (false, eval e1 env) :: starEach [e2] env := by intro _; rfl) (hc2 : ∀ env, starEach (e2 :: []) env = (false, eval e2 env) :: starEach [] env := by intro _; rfl)
    (harm : ∀ env, eval (.Call fe [e1, e2] [] pos) env = (do callWith pos (← eval fe env) [] (backTo pos (starEach [e1, e2] env)) (backToKw pos (keywordEach [] env))) := by intro _; rfl) :
    IT prog w hk H n F look (.Call fe [e1, e2] [] pos) (.Tuple elts kk tpos) (zipI ds1 ds2) := fun A s L env ok p => by
  refine call_raw hf (.cons h1 (.cons h2 .nil hc2) hc1) KP.type ok p (fun v vs s₁ q iv ivs p₁ => ?_) hp harm
  cases iv
  obtain ⟨u1, u2, rfl, j1, j2⟩ := ivs.two
  cases j1 with
  | @list l1 lo1 vs1 n1 _ a1 a2 a3 a4 =>
  cases j2 with
  | @tup l2 lo2 vs2 n2 _ b1 b2 b3 b4 =>
    have hl1 : s₁.heap.IsList l1 vs1 := ⟨lo1, (p₁.led _ _ a1).1, a2, n1, a3⟩
    have hl2 : s₁.heap.IsTuple l2 vs2 := ⟨lo2, (p₁.led _ _ b1).1, b2, n2, b3⟩
    refine call_zipT hl1 hl2 ?_
    have z1 : (zH1 s₁.heap l1).objs.size = s₁.heap.objs.size + 1 := Heap.size_push ..
    have z2 : (zH2 s₁.heap l1 l2).objs.size = s₁.heap.objs.size + 2 := by rw [Heap.size_push, z1]
    have z3 : (zH3 s₁.heap l1 l2).objs.size = s₁.heap.objs.size + 3 := by rw [Heap.size_push, z2]
    have z4 : (zH4 s₁.heap l1 l2).objs.size = s₁.heap.objs.size + 4 := by rw [Heap.size_push, z3]
    have k1 : ∀ b o, s₁.heap.get? b = some o → (zH5 s₁.heap l1 l2).get? b = some o := fun c o x => Heap.get?_push_of_some _ (Heap.get?_push_of_some _ (Heap.get?_push_of_some _ (Heap.get?_push_of_some _ (Heap.get?_push_of_some _ x))))
    have g5 : (zH5 s₁.heap l1 l2).get? (zH4 s₁.heap l1 l2).objs.size = some _ := Heap.get?_push_size _ rfl
    have g4 : (zH5 s₁.heap l1 l2).get? (zH3 s₁.heap l1 l2).objs.size = some _ := Heap.get?_push_of_some _ (Heap.get?_push_size _ rfl)
    have g3 : (zH5 s₁.heap l1 l2).get? (zH2 s₁.heap l1 l2).objs.size = some _ := Heap.get?_push_of_some _ (Heap.get?_push_of_some _ (Heap.get?_push_size _ rfl))
    have g2 : (zH5 s₁.heap l1 l2).get? (zH1 s₁.heap l1).objs.size = some _ := Heap.get?_push_of_some _ (Heap.get?_push_of_some _ (Heap.get?_push_of_some _ (Heap.get?_push_size _ rfl)))
    have g1 : (zH5 s₁.heap l1 l2).get? s₁.heap.objs.size = some _ := Heap.get?_push_of_some _ (Heap.get?_push_of_some _ (Heap.get?_push_of_some _ (Heap.get?_push_of_some _ (Heap.get?_push_size _ rfl))))
    rw [z2, z3, z4] at g5
    rw [z1, z2] at g3
    rw [z3] at g4
    rw [z1] at g2
    rw [z4]
    have lt1 : l1 < s₁.heap.objs.size := by obtain ⟨_, e, _⟩ := hl1; exact Heap.lt_size e
    have lt2 : l2 < s₁.heap.objs.size := by obtain ⟨_, e, _⟩ := hl2; exact Heap.lt_size e
    have D : ZipApart (s₁.heap.objs.size + 4) (s₁.heap.objs.size + 2) (s₁.heap.objs.size + 3) s₁.heap.objs.size (s₁.heap.objs.size + 1) l1 l2 := by
      generalize s₁.heap.objs.size = N at lt1 lt2
      constructor <;> (intro e; have e : (_ : Nat) = _ := e; simp only [Addr] at lt1 lt2; omega)
    refine wpAny_pyIter_zip (show IsZip (zH5 s₁.heap l1 l2) _ _ _ .none from g5) ?_
    have q₁ : Pure H s₁ { s₁ with heap := zH5 s₁.heap l1 l2 } := .all (t := s₁.toks) p₁.inv k1
    have qq := q.trans q₁
    have hsz : vs1.size = vs2.size := by rw [a4.arr, b4.arr, hl]
    have nI : ∀ b ∈ [s₁.heap.objs.size + 4, s₁.heap.objs.size + 2, s₁.heap.objs.size + 3, s₁.heap.objs.size, s₁.heap.objs.size + 1], s.heap.get? b = none ∧ s₁.heap.get? b = none := fun b hb => by
      have : s₁.heap.get? b = none := Heap.get?_none_of_le (by
        simp only [List.mem_cons, List.not_mem_nil, or_false] at hb
        rcases hb with rfl | rfl | rfl | rfl | rfl <;> first | exact Nat.le_add_right _ _ | exact Nat.le_refl _)
      exact ⟨q.keep.none this, this⟩
    have S0 : ZS (s₁.heap.objs.size + 4) (s₁.heap.objs.size + 2) (s₁.heap.objs.size + 3) s₁.heap.objs.size (s₁.heap.objs.size + 1) l1 l2 vs1 vs2 .none 0 (zH5 s₁.heap l1 l2) :=
      ⟨g5, g3, ⟨_, _, g4⟩, ⟨_, g1, rfl, rfl⟩, ⟨_, g2, rfl, rfl⟩, hl1.at (k1 _), hl2.at (k1 _)⟩
    refine ⟨⟨s₁.heap.objs.size + 4, [s₁.heap.objs.size + 4, s₁.heap.objs.size + 2, s₁.heap.objs.size + 3, s₁.heap.objs.size, s₁.heap.objs.size + 1, l1, l2], [s₁.heap.objs.size + 4, s₁.heap.objs.size + 2, s₁.heap.objs.size + 3, s₁.heap.objs.size, s₁.heap.objs.size + 1], vs1.size, _, _, _⟩, L.or (Fresh H s.heap s₁.heap), rfl,
      ⟨fun A hh => zip_turns hh D hsz, by rw [zipI_length hl, a4.arr], fun i v h L' x sub hv hx => ?_, fun A i s Q E hh st hQ => wpAny_pyIter_zip st.1 hQ, fun i h st b hb => ?_, fun b hb => ?_, fun b hb o e => ?_, fun i h st b hb o x e => ZS.noRec st b hb o x e, fun i v h st b hb o x e => ?_⟩, qq, fun _ _ => .inl, p₁.led.keep q₁.keep, fun a o e => e.imp id And.left, S0, fun b hb => (nI b hb).1⟩
    · obtain ⟨T, x1, y1, rfl, e1, e2, hT⟩ := hv
      obtain ⟨a, b, f1, f2, rfl⟩ := zipI_get _ _ _ hx
      obtain ⟨a', f1', i1⟩ := a4.get (by rw [Array.getElem?_toList]; exact e1)
      obtain ⟨b', f2', i2⟩ := b4.get (by rw [Array.getElem?_toList]; exact e2)
      rw [f1] at f1'; cases f1'
      rw [f2] at f2'; cases f2'
      exact ⟨T, _, rfl, hT, .cons (i1.mono sub) (.cons (i2.mono sub) .nil)⟩
    · obtain ⟨hz, hTI, ⟨a, b', hTO⟩, ⟨o1, ho1, _⟩, ⟨o2, ho2, _⟩, ⟨o3, ho3, _⟩, ⟨o4, ho4, _⟩⟩ := st
      simp only [List.mem_cons, List.not_mem_nil, or_false] at hb
      rcases hb with rfl | rfl | rfl | rfl | rfl | rfl | rfl
      · exact ⟨_, hz⟩
      · exact ⟨_, hTI⟩
      · exact ⟨_, hTO⟩
      · exact ⟨_, ho1⟩
      · exact ⟨_, ho2⟩
      · exact ⟨_, ho3⟩
      · exact ⟨_, ho4⟩
    · simp only [List.mem_cons, List.not_mem_nil, or_false] at hb
      rcases hb with rfl | rfl | rfl | rfl | rfl | rfl | rfl
      · exact .inl (by simp)
      · exact .inl (by simp)
      · exact .inl (by simp)
      · exact .inl (by simp)
      · exact .inl (by simp)
      · exact .inr ⟨lo1, a1⟩
      · exact .inr ⟨lo2, b1⟩
    · have e1 := (p₁.led _ _ e).1
      rw [(nI b hb).2] at e1; cases e1
    · obtain ⟨T, x1, y1, rfl, _, _, _, st', _⟩ := st
      exact ZS.noRec st' b hb o x e
end
end Mine
end

section -- E5
open PySem PySem.Calls PySem.W PyProof.Rows PySem.SeqAt PySem.MeetsSeq
set_option maxRecDepth 100000
set_option linter.unusedVariables false
namespace Mine
section
variable {prog : Program} {w : World} {H : Heap} {hk : PD → Int} {n m : Nat} {F : Fm} {wc : List Str} {look : Look} {own : Own} {A : Around} {B : Bs} {s s' s₁ : Shared} {L L' L₂ Lw : Led} {env : Env} {E : Value → Shared → Prop} {K : Frag} {G : Goal}
theorem CMP.notInD {xs : List (PD × PD)} {k k' d : PD} {i : Nat} (hn : 1 ≤ n) (hj : KeyAt xs k (some i)) (hx : xs[i]? = some (k', d)) : CMP prog w (hkW w) H n .NotIn k (.dict xs) false := fun A s L u v ok inv led iu iv => by
  cases iv with
  | @dict D o es ep _ h1 h2 h3 h4 =>
    have ho := (led _ _ h1).1
    have hT : s.TypeIs (.ref D) "dict" := ⟨_, ho, h2.1⟩
    show wpAny _ _ (do return Value.bool (!(← contains (.ref D) u))) _ _ s
    refine wpAny_bind ?_
    unfold contains
    try with_reducible refine wpAny_holding ?_
    refine wpAny_bind (wpAny_specialOf hT slot_dict_contains.lookup ?_)
    show wpAny _ _ (if (some (Value.builtin "dict.__contains__") == some Value.none) = true then _ else _) _ _ s
    rw [if_neg (by rw [beq_builtin_none]; exact Bool.false_ne_true)]
    refine wpAny_bind (wpAny_callSpecialUnlessNone?_slot (name := Str.ofString "__contains__") hT slot_dict_contains
      (wpAny_call_entry slot_dict_contains hT entry_dict_contains ?_ (args_dict_contains _ _)))
    show wpAny _ _ (dictGet D u >>= _) _ _ s
    refine wpAny_bind (get_pd led (ok.units1 hn) ho h3 h4 iu hj hx fun v tk i => ?_)
    show wpAny _ _ (ret (.bool true)) _ _ _
    exact wpAny_pure ⟨_, rfl, wpAny_truthy_bool (wpAny_pure ⟨rfl, .toks inv _⟩)⟩
theorem FN.lenList {ds : List PD} (hz : (ds.length : Int) < 2 ^ 63) : FN prog w hk H n (.val (.builtin "len")) [.list ds] [] (.int ds.length) := fun A s L fv vs kvs ok inv led iv i1 i2 i3 => by
  cases iv
  obtain rfl := kvs_nil i3
  obtain ⟨u, rfl, iu⟩ := i1.one1
  cases iu with
  | @list a o vs n _ h1 h2 h3 h4 =>
    have hl : s.heap.IsList a vs := ⟨o, (led _ _ h1).1, h2, n, h3⟩
    refine Calls.call_len_list hl (by rw [h4.arr]; exact hz) ?_
    rw [h4.arr]; exact Pure.post (.toks inv _) (.int _ _)
/-- a datum that is none of the top's own objects -/
def notRefD : PD → Bool
  | .val (.ref _) => false
  | .val (.builtin _) => false
  | .inst _ _ => false
  | .ins _ _ => false
  | .any => false
  | .clo _ _ => false
  | .kind _ => false
  | .attr _ => false
  | _ => true
theorem CMP.isTop {d : PD} {a : Addr} {o : Obj} {c : Addr} (X : KOk K H) (ho : K.lookup a = some o) (hc : o.cls = .ref c) (hc' : (c == madeC) = false) (hd : notRefD d = true) : CMP prog w hk H n .Is d (.val (.ref a)) false := fun A s L u v ok inv led iu iv => by
  cases iv
  have hK := X.in inv a o ho
  have ref : ∀ (x : Addr) (ox : Obj), s.heap.get? x = some ox → ox.cls ≠ o.cls → wpAny (model prog w) A (compareOp .Is (.ref x) (.ref a)) (fun t s' => t = .bool false ∧ Pure H s s') (fun _ _ => False) s := fun x ox hx hne => by
    have hxa : x ≠ a := fun e => by rw [e, hK] at hx; cases hx; exact hne rfl
    show wpAny _ A (do return Value.bool (← isSame (.ref x) (.ref a))) _ _ s
    refine wpAny_bind ?_
    show wpAny _ A (if (x == a) = true then pure true else _) _ _ s
    rw [if_neg (by simpa using hxa)]
    refine wpAny_bind (wpAny_load hx (wpAny_bind (wpAny_load hK ?_)))
    rw [hc]
    split
    · rename_i h1 h2 h3 h4; cases h2
    · exact wpAny_pure (wpAny_pure ⟨rfl, .refl inv⟩)
  have plain : ∀ x : Value, plainIs x (.ref a) = true → x ≠ .ref a → wpAny (model prog w) A (compareOp .Is x (.ref a)) (fun t s' => t = .bool false ∧ Pure H s s') (fun _ _ => False) s := fun x h1 h2 => wpAny_is_other h1 h2 ⟨rfl, .refl inv⟩
  cases iu with
  | val => cases u <;> first | exact plain _ rfl (by simp) | cases hd
  | int => exact plain _ rfl (by simp)
  | str => exact plain _ rfl (by simp)
  | intz => exact plain _ rfl (by simp)
  | strz => exact plain _ rfl (by simp)
  | list h1 h2 => exact ref _ _ (led _ _ h1).1 (by rw [h2, hc]; simp)
  | tup h1 h2 => exact ref _ _ (led _ _ h1).1 (by rw [h2, hc]; simp)
  | dict h1 h2 => exact ref _ _ (led _ _ h1).1 (by rw [h2.1, hc]; simp)
  | obj h1 h2 h3 h4 => exact ref _ _ (led _ _ h1).1 (by rw [hc]; intro e; injection e with e; rw [← e] at hc'; simp [madeC] at hc')
  | kind => cases hd
  | attr => cases hd
  | clo => cases hd
  | inst => cases hd
  | ins => cases hd
  | any => cases hd
end
section
variable {prog : Program} {w : World} {hk : PD → Int} {H : Heap} {K : Frag}
theorem AT.attrOf {y name : Str} {a : Option Value} {r : PD} (X : KOk K H) (hg : plainGet K attrC name = true) (hh : hasDictIn K attrC = true) (ha : findIn K (.ref attrC) name = some a) (hn : noGet K a = true)
    (h : ∀ (L : Led) (x : Addr), AttrAt L x y → ∃ ad es n v, L x (instObj attrC ad) ∧ L ad (dictOf es n) ∧ getL name es = some (some v) ∧ handedIn v = true ∧ Is hk L v r) : AT prog w hk H (.attr y) name r := fun A s L v hA inv led i => by
  cases i with
  | attr g =>
    obtain ⟨ad, es, n, v, h1, h2, h3, hv, h4⟩ := h L _ g
    exact AT.get (r := r) X hg hh ha hn inv led h1 h2 h3 hv (Pure.post (.toks inv _) h4)
end
end Mine
end

section -- E6
open PySem PySem.Calls PySem.W PyProof.Rows PySem.SeqAt PySem.MeetsSeq
set_option maxRecDepth 100000
set_option linter.unusedVariables false
namespace Mine
/-- a comprehension makes the datum, whatever takes it -/
def CP (prog : Program) (w : World) (hk : PD → Int) (H : Heap) (n : Nat) (F : Fm) (look : Look) (cmp : Env → Option (Value → Sem Unit) → Sem Value) (d : PD) : Prop :=
  ∀ (A : Around) (s : Shared) (L : Led) (env : Env) (use : Option (Value → Sem Unit)) (Q : Value → Shared → Prop) (E : Value → Shared → Prop), Ok n A → Pre hk H F env look L s →
    (∀ L' s' D C, s.heap.get? C = none → Ow hk H ⟨s, L, fun _ => False⟩ [] L' s' → Is hk L' (.ref D) d → (∃ m, s'.heap.Ns C m) → (∀ o, ¬ L' C o) → compPost (model prog w) A E use Q (.ref D) C (.ok .next) s') → wpAny (model prog w) A (cmp env use) Q E s
section
variable {prog : Program} {w : World} {H : Heap} {hk : PD → Int} {n m : Nat} {F : Fm} {wc : List Str} {look : Look} {own : Own} {A : Around} {B : Bs} {s s' s₁ : Shared} {L L' L₂ Lw : Led} {env : Env} {E : Value → Shared → Prop} {K : Frag} {G : Goal} {t : Expr} {items : List Item}
abbrev cmpL (elt t iter : Expr) (ifs : List Expr) (scope : Scope) (pos : Pos) (env : Env) (use : Option (Value → Sem Unit)) : Sem Value := comprehension (.ListComp elt [⟨t, iter, ifs, 0⟩] scope pos) scope env iter.pos (newList []) false (eval iter env) use
abbrev cmpD (kx vx t iter : Expr) (ifs : List Expr) (scope : Scope) (pos : Pos) (env : Env) (use : Option (Value → Sem Unit)) : Sem Value := comprehension (.DictComp kx vx [⟨t, iter, ifs, 0⟩] scope pos) scope env iter.pos newDict false (eval iter env) use
theorem CP.list {elt iter : Expr} {ifs : List Expr} {scope : Scope} {pos : Pos} {f : Item → Look → Look} {g : Item → Option PD}
    (hit : IT prog w hk H n F look iter t items) (hsz : items.length ≤ sizeLine) (hsc : ScOk F scope)
    (tg : ∀ x ∈ items, TGI prog w hk H (F.comp scope) [] t x (f x)) (hf : ∀ x ∈ items, ∀ y d, compLook F scope look y = some d → f x (compLook F scope look) y = some d)
    (hb : ∀ x ∈ items, TURN prog w hk H n (F.comp scope) (f x (compLook F scope look)) ifs elt (g x))
    (hs : ∀ env x, foldedSetIterable iter env x = pure x := by intro _ _; rfl) : CP prog w hk H n F look (cmpL elt t iter ifs scope pos) (.list (items.filterMap g)) :=
  fun A s L env use Q E ok p hQ => pure_comp ok p hit hsz hsc (hs env) tg hf hb hQ
theorem CP.listI {elt iter : Expr} {scope : Scope} {pos : Pos} {f : Item → Look → Look} {rs : List PD}
    (hit : IT prog w hk H n F look iter t items) (hsz : items.length ≤ sizeLine) (hsc : ScOk F scope) (hlen : rs.length = items.length)
    (tg : ∀ x ∈ items, TGI prog w hk H (F.comp scope) [] t x (f x)) (hf : ∀ x ∈ items, ∀ y d, compLook F scope look y = some d → f x (compLook F scope look) y = some d)
    (hb : ∀ (i : Nat) x r, items[i]? = some x → rs[i]? = some r → EV prog w hk H n (F.comp scope) (f x (compLook F scope look)) elt r)
    (hs : ∀ env x, foldedSetIterable iter env x = pure x := by intro _ _; rfl) : CP prog w hk H n F look (cmpL elt t iter [] scope pos) (.list rs) :=
  fun A s L env use Q E ok p hQ => pure_compI ok p hit hsz hsc (hs env) hlen tg hf hb hQ
theorem CP.dict {kx vx iter : Expr} {ifs : List Expr} {scope : Scope} {pos : Pos} {f : Item → Look → Look} {g : Item → Option (PD × PD)} (hn : 1 ≤ n)
    (hit : IT prog w (hkW w) H n F look iter t items) (hsz : items.length ≤ sizeLine) (hsc : ScOk F scope)
    (tg : ∀ x ∈ items, TGI prog w (hkW w) H (F.comp scope) [] t x (f x)) (hf : ∀ x ∈ items, ∀ y d, compLook F scope look y = some d → f x (compLook F scope look) y = some d)
    (hb : ∀ x ∈ items, TURND prog w H n (F.comp scope) (f x (compLook F scope look)) ifs kx vx (g x)) (hkey : ∀ (i : Nat) x k d, items[i]? = some x → g x = some (k, d) → KeyAt ((items.take i).filterMap g) k .none)
    (hs : ∀ env x, foldedSetIterable iter env x = pure x := by intro _ _; rfl) : CP prog w (hkW w) H n F look (cmpD kx vx t iter ifs scope pos) (.dict (items.filterMap g)) := fun A s L env use Q E ok p hQ => by
  have hclos : closureFor scope env = pure (closFrom env.cells scope.names []) := closureFor_eq fun y hy e => p.has y.1 (hsc.free y hy e)
  refine wpAny_comprehension_free (use := use) (g := ⟨t, iter, ifs, 0⟩) (gs := []) rfl (hs env) hclos hsc.kind hsc.names (wpAny_mono (hit A s L env ok p) (fun x s₁ h₁ => wpAny_mono h₁ (fun it s₂ h₂ => ?_) fun _ _ f => f.elim) fun _ _ f => f.elim)
  obtain ⟨W, L₂, rfl, wk, q, sub, ho, hb₂, hS, hwr⟩ := h₂
  have K := wk.turns A ok.handled
  unfold newDict
  refine wpAny_newObj_type (wpAny_newFunctionEnv hsc.cell (by intro y hy; simp at hy) (fun h₁ hns₁ hsb₁ => ?_) hsc.kind)
  have p₂ : Pre (hkW w) H F env look L₂ s₂ := { p.pure q with led := ho, view := fun x d e => let ⟨v, r, i⟩ := p.view x d e; ⟨v, r.keep q.keep, i.mono sub⟩ }
  have ow₂ : Ow (hkW w) H ⟨s, L, fun _ => False⟩ [] L₂ s₂ := .pure0 p.inv q sub ho hb₂
  have cell0 : ∀ y, scope.names.lookup y ≠ some .cell := fun y e => hsc.cell _ (mem_of_lookup e) rfl
  have st := compFrame (tk := s₂.toks + ([] : List (Str × Value)).length) (scope := scope) (x0 := .dct []) (h' := h₁) p₂ ow₂ cell0 hsc.kind hsc.free rfl (fun h e => ⟨_, _, e, .nil⟩) (fun _ h => (nomatch h)) hns₁ hsb₁
  have size1 : (s₂.heap.push ({ cls := .type "dict", data := .dict #[] } : Obj)).objs.size = s₂.heap.objs.size + 1 := Heap.size_push ..
  have hlt : ∀ b ∈ W.fp, b < s₂.heap.objs.size := fun b hb => let ⟨o, e⟩ := wk.here _ _ hS b hb; Heap.lt_size e
  have nD : s₂.heap.objs.size ∉ W.fp := fun h => Nat.lt_irrefl _ (hlt _ h)
  have nC : (s₂.heap.push ({ cls := .type "dict", data := .dict #[] } : Obj)).objs.size ∉ W.fp := fun h => by have := hlt _ h; rw [size1] at this; exact Nat.lt_irrefl _ (Nat.lt_of_succ_lt this)
  have old : ∀ b o, s₂.heap.get? b = some o → h₁.get? b = some o := fun b o e =>
    (hsb₁.2 b (by rw [size1]; exact Nat.ne_of_lt (Nat.lt_succ_of_lt (Heap.lt_size e)))).trans (Heap.get?_push_of_some _ (Heap.get?_push_of_some _ e))
  have hS₁ : W.S 0 h₁ := K.frame _ _ _ hS fun b _ o e => old b o e
  have sub' := closFrom_sub env.cells scope.names [] (fun _ _ e => (nomatch e)) fun z hz e => p.has z.1 (hsc.free z hz e)
  have ls0 : LS (hkW w) H W L₂ ⟨s, L, fun _ => False⟩ (F.comp scope) [] (compEnvC scope (closFrom env.cells scope.names []) (s₂.heap.push ({ cls := .type "dict", data := .dict #[] } : Obj)).objs.size env) (compLook F scope look) [(s₂.heap.objs.size, .dct [])] L₂ 0
      { s₂ with heap := h₁, toks := s₂.toks + ([] : List (Str × Value)).length } := ⟨st, hS₁, wk.apart, fun _ _ => id, fun pr hp => (List.mem_singleton.mp hp) ▸ nD, nC, fun x c e hm => ?_, fun x c h0 => (nomatch h0), fun b hb => hwr b hb⟩
  · have nCs : s.heap.get? (s₂.heap.push ({ cls := .type "dict", data := .dict #[] } : Obj)).objs.size = .none := q.keep.none (by
      cases z : s₂.heap.get? (s₂.heap.push ({ cls := .type "dict", data := .dict #[] } : Obj)).objs.size with
      | none => rfl
      | some o => exact absurd (Heap.lt_size z) (by rw [size1]; exact Nat.not_lt.mpr (Nat.le_succ _)))
    have done : codeAny (model prog w) A (.compLoop (.DictComp kx vx [⟨t, iter, ifs, 0⟩] scope pos) 0 (.ref W.I) (.ref s₂.heap.objs.size) (compEnvC scope (closFrom env.cells scope.names []) (s₂.heap.push ({ cls := .type "dict", data := .dict #[] } : Obj)).objs.size env))
        (compPost (model prog w) A E use Q (.ref s₂.heap.objs.size) (s₂.heap.push ({ cls := .type "dict", data := .dict #[] } : Obj)).objs.size) { s₂ with heap := h₁, toks := s₂.toks + ([] : List (Str × Value)).length } := by
      refine comp_dict_loop wk ok hn hsz tg hf hb hkey ls0 fun L' s' st' => ?_
      obtain ⟨L'', st'', i'', sub'', src''⟩ := st'.freeze
      obtain ⟨m, hm⟩ := st''.loc.2.2
      exact hQ _ _ _ _ nCs st''.ow i'' ⟨m, hm⟩ st''.loc.2.1
    exact codeAny_compStart_dict done (wk.self A 0 _ _ _ ok.handled hS₁ done)
  · obtain ⟨o, e'⟩ := p.cthere x c (sub' x c e)
    rw [hwr c hm] at e'; cases e'
/-- a name takes a comprehension -/
theorem EX.assignUse {x : Str} {p' apos : Pos} {e : Expr} {cmp : Env → Option (Value → Sem Unit) → Sem Value} {d : PD} {rest : List Stmt} (h : CP prog w hk H n F look cmp d) (k : EX prog w hk H n F wc (upd look x d) own rest G)
    (hx : F.sc.names.lookup x = some .local ∨ (F.sc.names.lookup x = some .cell ∧ x ∈ wc) := by first | exact .inl rfl | exact .inr ⟨rfl, by simp⟩)
    (hsw : ∀ env : Env, env.scope = F.sc → swapsWith e (some (.Name x p')) apos.line env = pure true := by intro env h; obtain ⟨sc, a1, a2, a3, a4, a5, a6, a7, a8⟩ := env; dsimp only at h; subst h; rfl)
    (hu : ∀ env use, evalThenUse e env use = (do let _ ← cmp env (some use)) := by intro _ _; rfl) :
    EX prog w hk H n F wc look own (.Assign [.Name x p'] e apos :: rest) G := .step fun A B s L env ok st => by
  rw [exec_Assign_Name_used _ _ _ _ (hsw env st.pre.scope), hu]
  refine wpAny_bind (wpAny_standAt (wpAny_bind (wpAny_bind (h A s L env _ _ (fun _ _ => False) ok st.pre fun L' s' D C hC ow i ⟨m, hn⟩ hl => ?_))))
  have q : Pure H s s' := ow.pure.pure fun _ e => e.elim
  have st' : St hk H B F wc env look own L' s' := st.stepL q ow.sub ow.led fun a o e => (ow.base a o e).imp id fun e => e.elim id False.elim
  have ne : ∀ {a : Addr}, (∃ o, s.heap.get? a = some o) → a ≠ C := fun ⟨o, e⟩ q => by rw [q, hC] at e; cases e
  refine wpAny_assign_Name (st'.rebase.store i hx fun s'' st'' => ?_)
  have nX : ¬ (St.there own wc F env L' s').X C := fun e => by
    rcases e with e | ⟨p, hp, e⟩ | ⟨y, h1, h2, h3⟩
    · exact ne (by obtain ⟨_, _, m, c⟩ := st.loc; exact Ns.there c) e.symm
    · exact ne (st.ownAt p hp).1.there e.symm
    · exact ne (st.pre.cthere y C h3) rfl
  have hn'' : s''.heap.Ns C m := by
    obtain ⟨o, es, ep, e, hd, r⟩ := hn
    exact ⟨o, es, ep, st''.pure.keep _ _ e (.inr (.inl fun vs q => by rw [hd] at q; cases q)) nX, hd, r⟩
  refine ⟨m, hn'', fun h' hs' => wpAny_pure (wpAny_pure ⟨_, _, L', k, ?_⟩)⟩
  have stf := st'.back st''
  exact stf.but (tk := s''.toks) (wr := [C]) (fun b hb => by rw [List.mem_singleton.mp hb]; exact st.pure.none hC) (fun b hb => by rw [List.mem_singleton.mp hb]; exact hl)
    (fun p hp h => ne (st.ownAt p hp).1.there (List.mem_singleton.mp h)) (fun h => ne (by obtain ⟨_, _, m, c⟩ := st.loc; exact Ns.there c) (List.mem_singleton.mp h))
    (fun y c e h => ne (st.pre.cthere y c e) (List.mem_singleton.mp h)) (fun b hb => by rw [List.mem_singleton.mp hb]; exact RecAt.ns hn'') (fun b o hb e => (hs'.2 b fun q => hb (by simp [q])).trans e)
theorem EX.assignCL {x : Str} {p' apos : Pos} {elt iter : Expr} {ifs : List Expr} {scope : Scope} {pos : Pos} {d : PD} {rest : List Stmt} (h : CP prog w hk H n F look (cmpL elt t iter ifs scope pos) d) (k : EX prog w hk H n F wc (upd look x d) own rest G)
    (hx : F.sc.names.lookup x = some .local ∨ (F.sc.names.lookup x = some .cell ∧ x ∈ wc) := by first | exact .inl rfl | exact .inr ⟨rfl, by simp⟩)
    (hsw : ∀ env : Env, env.scope = F.sc → swapsWith (.ListComp elt [⟨t, iter, ifs, 0⟩] scope pos) (some (.Name x p')) apos.line env = pure true := by intro env h; obtain ⟨sc, a1, a2, a3, a4, a5, a6, a7, a8⟩ := env; dsimp only at h; subst h; rfl)
    (hu : ∀ env use, evalThenUse (.ListComp elt [⟨t, iter, ifs, 0⟩] scope pos) env use = (do let _ ← cmpL elt t iter ifs scope pos env (some use)) := by intro _ _; rfl) :
    EX prog w hk H n F wc look own (.Assign [.Name x p'] (.ListComp elt [⟨t, iter, ifs, 0⟩] scope pos) apos :: rest) G := .assignUse h k hx hsw hu
theorem EX.assignCD {x : Str} {p' apos : Pos} {kx vx iter : Expr} {ifs : List Expr} {scope : Scope} {pos : Pos} {d : PD} {rest : List Stmt} (h : CP prog w hk H n F look (cmpD kx vx t iter ifs scope pos) d) (k : EX prog w hk H n F wc (upd look x d) own rest G)
    (hx : F.sc.names.lookup x = some .local ∨ (F.sc.names.lookup x = some .cell ∧ x ∈ wc) := by first | exact .inl rfl | exact .inr ⟨rfl, by simp⟩)
    (hsw : ∀ env : Env, env.scope = F.sc → swapsWith (.DictComp kx vx [⟨t, iter, ifs, 0⟩] scope pos) (some (.Name x p')) apos.line env = pure true := by intro env h; obtain ⟨sc, a1, a2, a3, a4, a5, a6, a7, a8⟩ := env; dsimp only at h; subst h; rfl)
    (hu : ∀ env use, evalThenUse (.DictComp kx vx [⟨t, iter, ifs, 0⟩] scope pos) env use = (do let _ ← cmpD kx vx t iter ifs scope pos env (some use)) := by intro _ _; rfl) :
    EX prog w hk H n F wc look own (.Assign [.Name x p'] (.DictComp kx vx [⟨t, iter, ifs, 0⟩] scope pos) apos :: rest) G := .assignUse h k hx hsw hu
theorem FN.lenTup {ds : List PD} (hz : (ds.length : Int) < 2 ^ 63) : FN prog w hk H n (.val (.builtin "len")) [.tup ds] [] (.int ds.length) := fun A s L fv vs kvs ok inv led iv i1 i2 i3 => by
  cases iv
  obtain rfl := kvs_nil i3
  obtain ⟨u, rfl, iu⟩ := i1.one1
  cases iu with
  | @tup a o vs n _ h1 h2 h3 h4 =>
    have hl : IsTup s.heap a vs.toList.toArray := ⟨o, (led _ _ h1).1, h2, n, by simpa using h3⟩
    refine len_tuple hl (by simp [h4.arr]; exact hz) ?_
    refine Pure.post (.toks inv _) ?_
    have e : vs.toList.toArray.size = ds.length := by simp [h4.arr]
    rw [e]; exact .int _ _
end
end Mine
end

section -- N1
open PySem PySem.Calls PySem.W PyProof.Rows PySem.SeqAt PySem.MeetsSeq
set_option maxRecDepth 100000
set_option linter.unusedVariables false
namespace Mine
theorem entry_callable : entryFor table "callable" = some Builtin.«callable» := entryFor_of_tree (by kernel_rfl)
theorem kind_callable : builtinKind "callable" = none := by decide +kernel
theorem plain_callable : plainId "callable" = true := by decide +kernel
theorem look_bool_call : typeLookup (.type "bool") "__call__" = pure none := by rw [typeLookup_type, builtinLookup_eq_fast]; kernel_rfl
theorem args_callable1 (a : Value) : argsOk "callable" ⟨[a], []⟩ := by unfold argsOk; kernel_rfl
section
variable {prog : Program} {w : World} {H : Heap} {hk : PD → Int} {n m : Nat} {F : Fm} {wc : List Str} {look : Look} {own : Own} {A : Around} {B : Bs} {s s' s₁ : Shared} {L L' : Led} {env : Env} {E : Value → Shared → Prop} {K : Frag} {G : Goal}
theorem St.storesR : ∀ {xs : List Str} {vs : List Value} {ds : List PD} {look : Look} {s : Shared} {Q : Unit → Shared → Prop}, St hk H B F wc env look own L s → IsAll hk L vs ds → xs.length = ds.length →
    (∀ x ∈ xs, F.sc.names.lookup x = some .local ∨ (F.sc.names.lookup x = some .cell ∧ x ∈ wc)) → (∀ s', St hk H B F wc env (upds look xs ds) own L s' → Q () s') → wpAny (model prog w) A (assignInOrder (xs.map fun x => bindName env x) vs) Q E s
  | [], vs, ds, look, s, Q, st, i, hl, hx, k => by
    cases ds with
    | nil => cases i; exact wpAny_assignInOrder_none (k s st)
    | cons => cases hl
  | x :: xs, vs, ds, look, s, Q, st, i, hl, hx, k => by
    cases ds with
    | nil => cases hl
    | cons d ds =>
      cases i with
      | cons i1 i2 =>
        refine assignInOrder_cons (bindName_ (st.store i1 (hx _ (.head _)) fun s' st' => ?_))
        exact St.storesR st' i2 (Nat.succ.inj hl) (fun y hy => hx y (.tail _ hy)) k
theorem IsAll.rev {vs : List Value} {ds : List PD} (h : IsAll hk L vs ds) : IsAll hk L vs.reverse ds.reverse := by
  induction ds generalizing vs with
  | nil => cases h; exact .nil
  | cons d r ih => cases h with | cons h1 h2 => simp only [List.reverse_cons]; exact (ih h2).append (.cons h1 .nil)
theorem lenOfTuple {vals : Array Value} {ds : List PD} (i : IsAll hk L vals.toList ds) : vals.size = ds.length := by rw [← i.length, Array.length_toList]
/-- a display taken apart into local names: the stores go backwards -/
theorem EX.unpackS {xs : List (Str × Pos)} {kk : Nat} {tpos pos : Pos} {e : Expr} {ds : List PD} {rest : List Stmt} (h : EV prog w hk H n F look e (.tup ds)) (k : EX prog w hk H n F wc (upds look (xs.map (·.1)).reverse ds.reverse) own rest G)
    (hx : ∀ x ∈ (xs.map (·.1)).reverse, F.sc.names.lookup x = some .local ∨ (F.sc.names.lookup x = some .cell ∧ x ∈ wc)) (hl : xs.length = ds.length := by rfl)
    (hs : ∀ env : Env, env.scope = F.sc → swapsWithSole [.Tuple (nameTs xs) kk tpos] e pos.line env = pure false := by intro env h; obtain ⟨sc, a1, a2, a3, a4, a5, a6, a7, a8⟩ := env; dsimp only at h; subst h; rfl)
    (hw : ∀ env : Env, env.scope = F.sc → swappedStores [.Tuple (nameTs xs) kk tpos] e env = pure (some (xs.map (·.1))) := by intro env h; obtain ⟨sc, a1, a2, a3, a4, a5, a6, a7, a8⟩ := env; dsimp only at h; subst h; rfl) :
    EX prog w hk H n F wc look own (.Assign [.Tuple (nameTs xs) kk tpos] e pos :: rest) G := .step fun A B s L env ok st =>
  Assign_Tuple_swapped (h.use ok st.pre fun v s' q i _ => by
    obtain ⟨T, vals, rfl, ht, iv⟩ := (st.step q).tuple i
    have hsz := lenOfTuple iv
    rw [show (xs.map (·.1)).length = vals.size by rw [hsz, List.length_map, hl]]
    refine wpAny_unpackItems_tuple ok.handled ht fun h' hx' => ?_
    have q2 : Pure H s' { s' with heap := h' } := .all (t := s'.toks) (st.step q).pre.inv fun b o e => hx' b o (fun z => by rw [z, get_size] at e; cases e) e
    have st2 := (st.step q).step q2
    refine St.storesR (Q := fun _ => _) st2 (iv.rev.mono fun _ _ => .inl) (by simp [hl]) hx fun s'' st'' => ?_
    exact ⟨_, _, _, k, st''⟩) (hs env st.pre.scope) (hw env st.pre.scope)
/-- as EX.unpack, the frame's names known -/
theorem EX.unpackF {xs : List (Str × Pos)} {kk : Nat} {tpos pos : Pos} {e : Expr} {ds : List PD} {rest : List Stmt} (h : EV prog w hk H n F look e (.tup ds)) (k : EX prog w hk H n F wc (upds look (xs.map (·.1)) ds) own rest G)
    (hx : ∀ x ∈ xs, F.sc.names.lookup x.1 = some .local ∨ (F.sc.names.lookup x.1 = some .cell ∧ x.1 ∈ wc)) (hl : xs.length = ds.length := by rfl)
    (hs : ∀ env : Env, env.scope = F.sc → swapsWithSole [.Tuple (nameTs xs) kk tpos] e pos.line env = pure false := by intro env h; obtain ⟨sc, a1, a2, a3, a4, a5, a6, a7, a8⟩ := env; dsimp only at h; subst h; rfl)
    (hw : ∀ env : Env, env.scope = F.sc → swappedStores [.Tuple (nameTs xs) kk tpos] e env = pure none := by intro env h; obtain ⟨sc, a1, a2, a3, a4, a5, a6, a7, a8⟩ := env; dsimp only at h; subst h; rfl) :
    EX prog w hk H n F wc look own (.Assign [.Tuple (nameTs xs) kk tpos] e pos :: rest) G := .step fun A B s L env ok st =>
  Assign_Tuple (h.use ok st.pre fun v s' q i _ => by
    obtain ⟨T, vals, rfl, ht, iv⟩ := (st.step q).tuple i
    exact (st.step q).unpack ok.handled ht iv hl hx fun s'' L'' _ st'' => ⟨_, _, _, k, st''⟩) (hs env st.pre.scope) (hw env st.pre.scope)
/-- True and False are not callable -/
theorem FN.callBool {b : Bool} : FN prog w hk H n (.val (.builtin "callable")) [.val (.bool b)] [] (.val (.bool false)) := fun A s L fv vs kvs ok inv led iv i1 i2 i3 => by
  cases iv
  obtain rfl := kvs_nil i3
  obtain ⟨u, rfl, iu⟩ := i1.one1
  cases iu
  refine Calls.call_function_entry kind_callable plain_callable entry_callable (args_callable1 _) ?_
  unfold Builtin.«callable»
  refine wpAny_bind (m := oneArg "callable" _) (wpAny_pure ?_)
  refine wpAny_bind (wpAny_specialOf (PySem.typeIs_bool _ _) look_bool_call ?_)
  exact wpAny_pure ⟨_, rfl, Pure.post (.refl inv) (.val _)⟩
theorem BIN.addL {xs ys : List PD} (hz : xs.length + ys.length ≤ sizeLine) : BIN prog w hk H .Add (.list xs) (.list ys) (.list (xs ++ ys)) := fun A s L u v _ inv led i j => by
  cases i with
  | @list l o vs nn _ h1 h2 h3 h4 =>
  cases j with
  | @list b o2 ws n2 _ g1 g2 g3 g4 =>
  obtain ⟨cls, dd, data, sl⟩ := o
  obtain ⟨cls2, dd2, data2, sl2⟩ := o2
  simp only at h2 h3 g2 g3
  subst h2 h3 g2 g3
  have e1 := (led _ _ h1).1
  have e2 := (led _ _ g1).1
  refine concat_meets ⟨_, e1, rfl⟩ ⟨_, e2, rfl⟩ noFill_list_add seq_list_add PySem.F.slot_list_add PySem.F.entry_list_add (PySem.F.args_list_add_2 _ _) (list_addW l b vs ws nn n2 dd dd2 sl sl2 (by rw [h4.arr, g4.arr]; exact hz)) ⟨e1, e2, ?_⟩
  have q : Pure H s { s with heap := s.heap.push { cls := .type "list", data := .seq (vs ++ ws) } } := .push inv _
  exact ⟨q, .list (.inr (Fresh.push (o := ({ cls := .type "list", data := .seq (vs ++ ws) } : Obj)) rfl ⟨.inl (by simp), inv.new (inv.none (get_size _))⟩)) rfl rfl (by rw [Array.toList_append]; exact (h4.append g4).mono fun _ _ => .inl)⟩
theorem MT.lstrip {x y : Str} (hz : x.length ≤ sizeLine) : MT prog w hk H n (.str x) "lstrip" [.str y] (.str (Txt.lstripChars x y)) := fun A s L o pl ok inv led i => by
  cases i
  refine GM.lstrip ⟨rfl, _, rfl, fun s' L' vs inv' led' _ i1 => ?_⟩
  obtain ⟨u, rfl, iu⟩ := i1.one1
  cases iu
  rename_i t _ t2
  refine call_gives F.slot_str_lstrip (typeIs_str _ _ _) F.entry_str_lstrip (F.args_str_lstrip_2 _ _) (gives_str_lstrip_chars x y t t2) (post_val_or_made (fun _ => fits_stripped _ _ _ hz) fun t' k => Pure.post (.toks inv' k) (.str _ _))
end
end Mine
end

section -- Q1
open PySem PySem.Calls PySem.W PyProof.Rows PySem.SeqAt PySem.MeetsSeq
open AutoSeq1 (wpAny_loadPart')
open MeetsSeq MeetsSeq2 MeetsSeq3 SeqRoads2
set_option maxRecDepth 100000
set_option linter.unusedVariables false
namespace Mine
section
variable (prog : Program) (w : World) (hk : PD → Int) (H : Heap)
/-- two that bear the datum are equal -/
def EQJ (n : Nat) (d : PD) : Prop := ∀ (A : Around) (s : Shared) (L : Led) (u v : Value), Ok n A → Inv H s.heap → Holds H L s.heap → Is hk L u d → Is hk L v d →
  wpAny (model prog w) A (eqBool u v) (fun t s' => t = true ∧ Pure H s s') (fun _ _ => False) s
/-- and so by == -/
def RCJ (n : Nat) (op : CmpOp) (d : PD) (r : Bool) : Prop := ∀ (A : Around) (s : Shared) (L : Led) (u v : Value), Ok n A → Inv H s.heap → Holds H L s.heap → Is hk L u d → Is hk L v d →
  wpAny (model prog w) A (richCompare op u v) (fun t s' => t = .bool r ∧ Pure H s s') (fun _ _ => False) s
end
section
variable {prog : Program} {w : World} {hk : PD → Int} {H : Heap} {n m : Nat} {A : Around} {s : Shared} {L : Led} {d : PD}
theorem EQJ.le (h : EQJ prog w hk H n d) (hn : n ≤ m) : EQJ prog w hk H m d := fun A s L u v ok => h A s L u v (ok.le hn)
theorem RCJ.le {op : CmpOp} {r : Bool} (h : RCJ prog w hk H n op d r) (hn : n ≤ m) : RCJ prog w hk H m op d r := fun A s L u v ok => h A s L u v (ok.le hn)
theorem EQJ.ofRc (hd : ∀ (L : Led) v, Is hk L v d → ∃ a, v = .ref a) (h : RCJ prog w hk H n .Eq d true) : EQJ prog w hk H n d := fun A s L u v ok inv led iu iv => by
  obtain ⟨a, rfl⟩ := hd L u iu
  obtain ⟨b, rfl⟩ := hd L v iv
  unfold eqBool
  refine wpAny_holding ?_
  refine wpAny_ite_split (fun _ => ?_) (fun _ => ?_)
  · exact wpAny_bind (wpAny_rule (wpAny_pure ⟨rfl, .refl inv⟩))
  · exact wpAny_bind (wpAny_mono (h A s L _ _ ok inv led iu iv) (fun t s' e => by obtain ⟨rfl, q⟩ := e; exact wpAny_truthy_bool ⟨rfl, q⟩) fun _ _ f => f)
theorem EQJ.ofAt (h : ∀ (A : Around) (s : Shared) (L : Led) (u v : Value), Is hk L u d → Is hk L v d → EqAt A s u v true) : EQJ prog w hk H n d := fun A s L u v ok inv led iu iv => h A s L u v iu iv prog w _ _ ⟨rfl, .refl inv⟩
theorem EQJ.int {i : Int} : EQJ prog w hk H n (.int i) := .ofAt fun A s L u v iu iv => by
  cases iu; cases iv
  have := EqAt.int_int (A := A) (s := s) i ‹Tok› i ‹Tok›
  simp only [beq_self_eq_true] at this
  rename_i t u
  have := EqAt.int_int (A := A) (s := s) i t i u
  simpa using this
theorem EQJ.str {x : Str} : EQJ prog w hk H n (.str x) := .ofAt fun A s L u v iu iv => by
  cases iu; cases iv
  rename_i t u
  have := EqAt.str_str (A := A) (s := s) x t x u
  simpa using this
theorem EQJ.val {v : Value} : EQJ prog w hk H n (.val v) := .ofAt fun A s L u v iu iv => by
  cases iu; cases iv; exact EqAt.same _
/-- the places of two rows -/
theorem IsAll.at2 {vs : List Value} {ds : List PD} (h : IsAll hk L vs ds) {i : Nat} (hi : i < ds.length) : ∃ v, vs[i]? = some v ∧ Is hk L v ds[i] := h.get' (List.getElem?_eq_getElem hi)
theorem wp_listItems {M : Model} {E : Value → Shared → Prop} {a : Addr} {o : Obj} {xs : Array Value} {n : Nat} {Q : Array Value → Shared → Prop} (h : s.heap.get? a = some o) (hd : o.data = .seq xs n) (k : Q xs s) : wpAny M A (Builtin.List.listItems (.ref a)) Q E s := by
  unfold Builtin.List.listItems
  exact wpAny_bind (wpAny_seqItems h hd (wpAny_pure k))
theorem listEq_loop {a b : Addr} {oa ob : Obj} {xs ys : Array Value} {na nb : Nat} {ds : List PD} {op : CmpOp} {code : Nat} {r : Bool} (hop : (op = .Eq ∧ code = 2 ∧ r = true) ∨ (op = .NotEq ∧ code = 3 ∧ r = false)) (h1 : L a oa) (c1 : oa.cls = .type "list") (e1 : oa.data = .seq xs na) (i1 : IsAll hk L xs.toList ds) (h2 : L b ob) (c2 : ob.cls = .type "list") (e2 : ob.data = .seq ys nb) (i2 : IsAll hk L ys.toList ds)
    (he : ∀ d ∈ ds, EQJ prog w hk H n d) (ok : Ok n A.in1) {R : Result → Shared → Prop} (k : Nat) :
    ∀ (i : Nat) (s : Shared), ds.length - i = k → Inv H s.heap → Holds H L s.heap → (∀ s', Pure H s s' → R (.ok (.ret (.bool r))) s') →
      wpAny (model prog w) A.in1 (Builtin.«list.__eq__.loop» ⟨[.ref a, .ref b, rawInt i, rawInt code], []⟩) (fun fin s' => match fin with | .done f => R (.ok f) s' | .again c' => c'.quiet = true ∧ codeAny (model prog w) A c' R s') (fun e s' => R (.error e) s') s := by
  have l1 : xs.size = ds.length := i1.arr
  have l2 : ys.size = ds.length := i2.arr
  induction k with
  | zero =>
    intro i s hk inv led hR
    have hl := (led _ _ h1).1
    have hb := (led _ _ h2).1
    have hR := hR s (.refl inv)
    have hi1 : xs[((i : Nat) : Int).toNat]? = none := by simp; omega
    have hi2 : ys[((i : Nat) : Int).toNat]? = none := by simp; omega
    rcases hop with ⟨rfl, rfl, rfl⟩ | ⟨rfl, rfl, rfl⟩
    · unfold Builtin.«list.__eq__.loop»
      repeat wp_delta
      refine wpAny_bind (wp_listItems hl e1 (wpAny_bind (wp_listItems hb e2 ?_)))
      rw [hi1, hi2]
      dsimp only
      refine wpAny_bind (wp_listItems hl e1 (wpAny_bind (wp_listItems hb e2 ?_)))
      refine wpAny_pure ?_
      show R (.ok (.ret (.bool (xs.size == ys.size)))) _
      rw [l1, l2]
      simpa using hR
    · unfold Builtin.«list.__eq__.loop»
      repeat wp_delta
      refine wpAny_bind (wp_listItems hl e1 (wpAny_bind (wp_listItems hb e2 ?_)))
      rw [hi1, hi2]
      dsimp only
      refine wpAny_bind (wp_listItems hl e1 (wpAny_bind (wp_listItems hb e2 ?_)))
      refine wpAny_pure ?_
      show R (.ok (.ret (.bool (xs.size != ys.size)))) _
      rw [l1, l2]
      simpa using hR
  | succ k ih =>
    intro i s hk inv led hR
    have hl := (led _ _ h1).1
    have hb := (led _ _ h2).1
    have hlt : i < ds.length := by omega
    obtain ⟨x, hx, ix⟩ := i1.at2 hlt
    obtain ⟨y, hy, iy⟩ := i2.at2 hlt
    rw [Array.getElem?_toList] at hx hy
    have hi1 : xs[((i : Nat) : Int).toNat]? = some x := by simpa using hx
    have hi2 : ys[((i : Nat) : Int).toNat]? = some y := by simpa using hy
    have hc : ((i : Int) + 1) = ((i + 1 : Nat) : Int) := by push_cast; rfl
    have hq := he ds[i] (List.getElem_mem hlt) A.in1 s L x y ok inv led ix iy
    rcases hop with ⟨rfl, rfl, rfl⟩ | ⟨rfl, rfl, rfl⟩
    · unfold Builtin.«list.__eq__.loop»
      repeat wp_delta
      refine wpAny_bind (wp_listItems hl e1 (wpAny_bind (wp_listItems hb e2 ?_)))
      rw [hi1, hi2]
      dsimp only
      refine wpAny_bind (wpAny_mono hq (fun t s' e => ?_) fun _ _ f => f.elim)
      obtain ⟨rfl, q⟩ := e
      rw [if_pos rfl, hc]
      refine wpAny_pure ?_
      exact ⟨plainId_quiet plain_eq_loop _, codeAny_builtin entry_eq_loop (by
        rw [Around.under_plainId plain_eq_loop _]
        exact ih (i + 1) s' (by omega) q.inv (led.keep q.keep) fun s'' q' => hR s'' (q.trans q'))⟩
    · unfold Builtin.«list.__eq__.loop»
      repeat wp_delta
      refine wpAny_bind (wp_listItems hl e1 (wpAny_bind (wp_listItems hb e2 ?_)))
      rw [hi1, hi2]
      dsimp only
      refine wpAny_bind (wpAny_mono hq (fun t s' e => ?_) fun _ _ f => f.elim)
      obtain ⟨rfl, q⟩ := e
      rw [if_pos rfl, hc]
      refine wpAny_pure ?_
      exact ⟨plainId_quiet plain_eq_loop _, codeAny_builtin entry_eq_loop (by
        rw [Around.under_plainId plain_eq_loop _]
        exact ih (i + 1) s' (by omega) q.inv (led.keep q.keep) fun s'' q' => hR s'' (q.trans q'))⟩
end
end Mine
end

section -- Q2
open PySem PySem.Calls PySem.W PyProof.Rows PySem.SeqAt PySem.MeetsSeq
open AutoSeq1 (wpAny_loadPart')
open MeetsSeq MeetsSeq2 MeetsSeq3 SeqRoads2
set_option maxRecDepth 100000
set_option linter.unusedVariables false
namespace Mine
section
variable {prog : Program} {w : World} {hk : PD → Int} {H : Heap} {n m : Nat} {A : Around} {E : Value → Shared → Prop} {s : Shared} {L : Led} {d : PD}
/-- a slot's call, by its builtin -/
theorem call_slotB {T : String} {name : Str} {id : String} {B : Builtin} {self : Value} {rest : List Value} {Q : Value → Shared → Prop} (slot : Slot T name id) (hT : s.TypeIs self T) (entry : entryFor table id = some B) (args : argsOk id ⟨self :: rest, []⟩)
    (h : wpAny (model prog w) A.in1 (B ⟨self :: rest, []⟩) (fun fin s' => match fin with | .done f => wants Q E (.ok f) s' | .again c' => c'.quiet = true ∧ codeAny (model prog w) A c' (wants Q E) s') (fun e s' => wants Q E (.error e) s') s) :
    wpAny (model prog w) A (call (.builtin id) (self :: rest)) Q E s :=
  wpAny_call (codeAny_call_builtin slot.plain entry (slot.check _ _ _ _ _ _ _ _ hT args h))
theorem RCJ.listEq {ds : List PD} (he : ∀ d ∈ ds, EQJ prog w hk H n d) : RCJ prog w hk H (n + 1) .Eq (.list ds) true := fun A s L u v ok inv led iu iv => by
  cases iu with
  | @list a oa xs na _ h1 c1 e1 i1 =>
  cases iv with
  | @list b ob ys nb _ h2 c2 e2 i2 =>
    have hl := (led _ _ h1).1
    have hb := (led _ _ h2).1
    have hsz : xs.size = ys.size := by rw [i1.arr, i2.arr]
    refine wpAny_richCompare_same_room (op := .Eq) ⟨_, hl, c1⟩ ⟨_, hb, c2⟩ PySem.F.slot_list_eq (call_slotB PySem.F.slot_list_eq ⟨_, hl, c1⟩ PySem.F.entry_list_eq (PySem.F.args_list_eq_2 _ _) ?_) ok.unit
    have z := listEq_loop (prog := prog) (w := w) (hk := hk) (H := H) (A := A) (R := wants (fun v s' => v ≠ .notImplemented ∧ v = .bool true ∧ Pure H s s') (fun _ _ => False)) (.inl ⟨rfl, rfl, rfl⟩) h1 c1 e1 i1 h2 c2 e2 i2 he ok.in1 ds.length 0 s (by omega) inv led fun s' q => (⟨by simp, rfl, q⟩ : _ ∧ _)
    have hne : ¬ (xs.size != ys.size) = true := by simp [hsz]
    unfold Builtin.«list.__eq__»
    repeat wp_delta
    refine wpAny_bind (wpAny_of_eq (show slotArgs "__eq__" 1 ⟨[.ref a, .ref b], []⟩ = pure (.ref a, [.ref b]) from rfl) ?_)
    dsimp only
    refine wpAny_bind (wpAny_isInstance ⟨_, hb, c2⟩ AutoSeq1.sub_list_list ?_)
    rw [if_neg (by decide), if_pos (by decide)]
    refine wpAny_bind (wp_listItems hl e1 (wpAny_bind (wp_listItems hb e2 ?_)))
    rw [if_neg hne]
    refine wpAny_pure ?_
    exact ⟨plainId_quiet plain_eq_loop _, codeAny_builtin entry_eq_loop (by
      rw [Around.under_plainId plain_eq_loop _]
      exact z)⟩
theorem RCJ.listNe {ds : List PD} (he : ∀ d ∈ ds, EQJ prog w hk H n d) : RCJ prog w hk H (n + 1) .NotEq (.list ds) false := fun A s L u v ok inv led iu iv => by
  cases iu with
  | @list a oa xs na _ h1 c1 e1 i1 =>
  cases iv with
  | @list b ob ys nb _ h2 c2 e2 i2 =>
    have hl := (led _ _ h1).1
    have hb := (led _ _ h2).1
    have hsz : xs.size = ys.size := by rw [i1.arr, i2.arr]
    refine wpAny_richCompare_same_room (op := .NotEq) ⟨_, hl, c1⟩ ⟨_, hb, c2⟩ PySem.F.slot_list_ne (call_slotB PySem.F.slot_list_ne ⟨_, hl, c1⟩ PySem.F.entry_list_ne (PySem.F.args_list_ne_2 _ _) ?_) ok.unit
    have z := listEq_loop (prog := prog) (w := w) (hk := hk) (H := H) (A := A) (R := wants (fun v s' => v ≠ .notImplemented ∧ v = .bool false ∧ Pure H s s') (fun _ _ => False)) (.inr ⟨rfl, rfl, rfl⟩) h1 c1 e1 i1 h2 c2 e2 i2 he ok.in1 ds.length 0 s (by omega) inv led fun s' q => (⟨by simp, rfl, q⟩ : _ ∧ _)
    have hne : ¬ (xs.size != ys.size) = true := by simp [hsz]
    unfold Builtin.«list.__ne__»
    repeat wp_delta
    refine wpAny_bind (wpAny_of_eq (show slotArgs "__ne__" 1 ⟨[.ref a, .ref b], []⟩ = pure (.ref a, [.ref b]) from rfl) ?_)
    dsimp only
    refine wpAny_bind (wpAny_isInstance ⟨_, hb, c2⟩ AutoSeq1.sub_list_list ?_)
    rw [if_neg (by decide), if_pos (by decide)]
    refine wpAny_bind (wp_listItems hl e1 (wpAny_bind (wp_listItems hb e2 ?_)))
    rw [if_neg hne]
    refine wpAny_pure ?_
    exact ⟨plainId_quiet plain_eq_loop _, codeAny_builtin entry_eq_loop (by
      rw [Around.under_plainId plain_eq_loop _]
      exact z)⟩
theorem wp_tupleItems {M : Model} {a : Addr} {o : Obj} {xs : Array Value} {n : Nat} {Q : Array Value → Shared → Prop} (h : s.heap.get? a = some o) (hd : o.data = .seq xs n) (k : Q xs s) : wpAny M A (Builtin.Tuple.tupleItemsOf (.ref a)) Q E s := by
  unfold Builtin.Tuple.tupleItemsOf
  exact wpAny_bind (wpAny_seqItems h hd (wpAny_pure k))
/-- the pairs of two equal rows -/
theorem zip_at2 {xs ys : List Value} {ds : List PD} (i1 : IsAll hk L xs ds) (i2 : IsAll hk L ys ds) {x y : Value} {rest : List (Value × Value)} {i : Nat} (h : (x, y) :: rest = (xs.zip ys).drop i) :
    ∃ d ∈ ds, Is hk L x d ∧ Is hk L y d ∧ rest = (xs.zip ys).drop (i + 1) := by
  have hlt : i < (xs.zip ys).length := by
    rcases Nat.lt_or_ge i (xs.zip ys).length with h' | h'
    · exact h'
    · rw [List.drop_of_length_le h'] at h; cases h
  rw [List.drop_eq_getElem_cons hlt] at h
  injection h with h1 h2
  have hxy : (xs.zip ys)[i]? = some (x, y) := by rw [List.getElem?_eq_getElem hlt, ← h1]
  obtain ⟨g1, g2⟩ := List.getElem?_zip_eq_some.mp hxy
  obtain ⟨dx, e1, j1⟩ := i1.get g1
  obtain ⟨dy, e2, j2⟩ := i2.get g2
  rw [e1] at e2; cases e2
  exact ⟨_, List.mem_of_getElem? e1, j1, j2, h2⟩
theorem tup_body {a b : Addr} {oa ob : Obj} {xs ys : Array Value} {na nb : Nat} {ds : List PD} {op : CmpOp} {r : Bool} {B : Builtin} (hB : (op = .Eq ∧ r = true ∧ B = Builtin.«tuple.__eq__») ∨ (op = .NotEq ∧ r = false ∧ B = Builtin.«tuple.__ne__»)) (h1 : L a oa) (c1 : oa.cls = .type "tuple") (e1 : oa.data = .seq xs na) (i1 : IsAll hk L xs.toList ds) (h2 : L b ob) (c2 : ob.cls = .type "tuple") (e2 : ob.data = .seq ys nb) (i2 : IsAll hk L ys.toList ds)
    (he : ∀ d ∈ ds, EQJ prog w hk H n d) (ok : Ok n A.in1) (inv : Inv H s.heap) (led : Holds H L s.heap) {R : Result → Shared → Prop} (hR : ∀ s', Pure H s s' → R (.ok (.ret (.bool r))) s') :
    wpAny (model prog w) A.in1 (B ⟨[.ref a, .ref b], []⟩) (fun fin s' => match fin with | .done f => R (.ok f) s' | .again c' => c'.quiet = true ∧ codeAny (model prog w) A c' R s') (fun e s' => R (.error e) s') s := by
  have l1 : xs.size = ds.length := i1.arr
  have l2 : ys.size = ds.length := i2.arr
  have hl := (led _ _ h1).1
  have hb := (led _ _ h2).1
  rcases hB with ⟨rfl, rfl, rfl⟩ | ⟨rfl, rfl, rfl⟩
  · unfold Builtin.«tuple.__eq__»
    repeat wp_delta
    refine wpAny_bind (wpAny_of_eq (show slotArgs "__eq__" 1 ⟨[.ref a, .ref b], []⟩ = pure (.ref a, [.ref b]) from rfl) ?_)
    dsimp only
    refine wpAny_bind (wpAny_isInstance ⟨_, hb, c2⟩ AutoSeq1.sub_tuple_tuple ?_)
    rw [if_neg (by decide)]
    refine wpAny_bind (wp_tupleItems hl e1 (wpAny_bind (wp_tupleItems hb e2 (wpAny_bind ?_))))
    refine wpAny_forIn_list _ (fun rest b s' => b.1 = none ∧ Pure H s s' ∧ Holds H L s'.heap ∧ ∃ i, rest = (xs.toList.zip ys.toList).drop i) _ ?_ ?_ _ _ ⟨rfl, .refl inv, led, 0, rfl⟩
    · rintro ⟨y, x⟩ rest b s' ⟨hb', q, led', i, hz⟩
      obtain ⟨dd, hd, ix, iy, hrest⟩ := zip_at2 i1 i2 hz
      dsimp only
      refine wpAny_bind (wpAny_mono (he dd hd A.in1 s' L y x ok q.inv led' ix iy) (fun t s'' e => ?_) fun _ _ f => f.elim)
      obtain ⟨rfl, q'⟩ := e
      rw [if_neg (by decide)]
      exact wpAny_pure ⟨rfl, q.trans q', led'.keep q'.keep, i + 1, hrest⟩
    · rintro ⟨b1, b2⟩ s' ⟨hb', q, led', i, hz⟩
      simp only at hb'
      subst hb'
      dsimp only
      refine wpAny_pure ?_
      have := hR s' q
      simpa [Builtin.Tuple.tupleCompareSizes, l1, l2] using this
  · unfold Builtin.«tuple.__ne__»
    repeat wp_delta
    refine wpAny_bind (wpAny_of_eq (show slotArgs "__ne__" 1 ⟨[.ref a, .ref b], []⟩ = pure (.ref a, [.ref b]) from rfl) ?_)
    dsimp only
    refine wpAny_bind (wpAny_isInstance ⟨_, hb, c2⟩ AutoSeq1.sub_tuple_tuple ?_)
    rw [if_neg (by decide)]
    refine wpAny_bind (wp_tupleItems hl e1 (wpAny_bind (wp_tupleItems hb e2 (wpAny_bind ?_))))
    refine wpAny_forIn_list _ (fun rest b s' => b.1 = none ∧ Pure H s s' ∧ Holds H L s'.heap ∧ ∃ i, rest = (xs.toList.zip ys.toList).drop i) _ ?_ ?_ _ _ ⟨rfl, .refl inv, led, 0, rfl⟩
    · rintro ⟨y, x⟩ rest b s' ⟨hb', q, led', i, hz⟩
      obtain ⟨dd, hd, ix, iy, hrest⟩ := zip_at2 i1 i2 hz
      dsimp only
      refine wpAny_bind (wpAny_mono (he dd hd A.in1 s' L y x ok q.inv led' ix iy) (fun t s'' e => ?_) fun _ _ f => f.elim)
      obtain ⟨rfl, q'⟩ := e
      rw [if_neg (by decide)]
      exact wpAny_pure ⟨rfl, q.trans q', led'.keep q'.keep, i + 1, hrest⟩
    · rintro ⟨b1, b2⟩ s' ⟨hb', q, led', i, hz⟩
      simp only at hb'
      subst hb'
      dsimp only
      refine wpAny_pure ?_
      have := hR s' q
      simpa [Builtin.Tuple.tupleCompareSizes, l1, l2] using this
end
end Mine
end

section -- Q3
open PySem PySem.Calls PySem.W PyProof.Rows PySem.SeqAt PySem.MeetsSeq
open AutoSeq1 (wpAny_loadPart')
open MeetsSeq MeetsSeq2 MeetsSeq3 SeqRoads2
set_option maxRecDepth 100000
set_option linter.unusedVariables false
namespace Mine
section
variable {prog : Program} {w : World} {hk : PD → Int} {H : Heap} {n m : Nat} {A : Around} {E : Value → Shared → Prop} {s : Shared} {L : Led} {d : PD}
theorem RCJ.tupEq {ds : List PD} (he : ∀ d ∈ ds, EQJ prog w hk H n d) : RCJ prog w hk H (n + 1) .Eq (.tup ds) true := fun A s L u v ok inv led iu iv => by
  cases iu with
  | @tup a oa xs na _ h1 c1 e1 i1 =>
  cases iv with
  | @tup b ob ys nb _ h2 c2 e2 i2 =>
    have hl := (led _ _ h1).1
    have hb := (led _ _ h2).1
    refine wpAny_richCompare_same_room (op := .Eq) ⟨_, hl, c1⟩ ⟨_, hb, c2⟩ PySem.F.slot_tuple_eq (call_slotB PySem.F.slot_tuple_eq ⟨_, hl, c1⟩ PySem.F.entry_tuple_eq (PySem.F.args_tuple_eq_2 _ _) ?_) ok.unit
    exact tup_body (.inl ⟨rfl, rfl, rfl⟩) h1 c1 e1 i1 h2 c2 e2 i2 he ok.in1 inv led fun s' q => (⟨by simp, rfl, q⟩ : _ ∧ _)
theorem RCJ.tupNe {ds : List PD} (he : ∀ d ∈ ds, EQJ prog w hk H n d) : RCJ prog w hk H (n + 1) .NotEq (.tup ds) false := fun A s L u v ok inv led iu iv => by
  cases iu with
  | @tup a oa xs na _ h1 c1 e1 i1 =>
  cases iv with
  | @tup b ob ys nb _ h2 c2 e2 i2 =>
    have hl := (led _ _ h1).1
    have hb := (led _ _ h2).1
    refine wpAny_richCompare_same_room (op := .NotEq) ⟨_, hl, c1⟩ ⟨_, hb, c2⟩ PySem.F.slot_tuple_ne (call_slotB PySem.F.slot_tuple_ne ⟨_, hl, c1⟩ PySem.F.entry_tuple_ne (PySem.F.args_tuple_ne_2 _ _) ?_) ok.unit
    exact tup_body (.inr ⟨rfl, rfl, rfl⟩) h1 c1 e1 i1 h2 c2 e2 i2 he ok.in1 inv led fun s' q => (⟨by simp, rfl, q⟩ : _ ∧ _)
theorem EQJ.list {ds : List PD} (he : ∀ d ∈ ds, EQJ prog w hk H n d) : EQJ prog w hk H (n + 1) (.list ds) := .ofRc (fun L v i => by cases i; exact ⟨_, rfl⟩) (.listEq he)
theorem EQJ.tup {ds : List PD} (he : ∀ d ∈ ds, EQJ prog w hk H n d) : EQJ prog w hk H (n + 1) (.tup ds) := .ofRc (fun L v i => by cases i; exact ⟨_, rfl⟩) (.tupEq he)
theorem samePairs_pd {nm : String} {a b : Addr} {oa ob : Obj} {es es' : Array DictEntry} {ep ep' : Nat} {xs : List (PD × PD)} {Q : Bool → Shared → Prop} (h1 : L a oa) (d1 : oa.data = .dict es ep) (i1 : IsEs (hkW w) L es.toList xs) (h2 : L b ob) (d2 : ob.data = .dict es' ep') (i2 : IsEs (hkW w) L es'.toList xs)
    (hkey : ∀ (i : Nat) x, xs[i]? = some x → KeyAt xs x.1 (some i)) (he : ∀ x ∈ xs, EQJ prog w (hkW w) H n x.2) (ok : Ok n A) (inv : Inv H s.heap) (led : Holds H L s.heap) (h : ∀ s', Pure H s s' → Q true s') : wpAny (model prog w) A (Builtin.Dict.samePairs nm a b) Q E s := by
  have hoa := (led _ _ h1).1
  have hob := (led _ _ h2).1
  have ha : (a == sysModules) = false := (led _ _ h1).2.2
  have hb : (b == sysModules) = false := (led _ _ h2).2.2
  have hla : es.size = xs.length := by rw [← i1.length, Array.length_toList]
  have hlb : es'.size = xs.length := by rw [← i2.length, Array.length_toList]
  have hsz : es.size = es'.size := hla.trans hlb.symm
  unfold Builtin.Dict.samePairs Builtin.Dict.showsAll
  rw [if_neg (show ¬ (a == sysModules) = true by rw [ha]; exact Bool.false_ne_true), if_neg (show ¬ (b == sysModules) = true by rw [hb]; exact Bool.false_ne_true)]
  refine wpAny_bind (wpAny_pure (wpAny_bind (wpAny_pure ?_)))
  refine wpAny_bind (wpAny_dictEntries hoa d1 ?_)
  dsimp only
  refine wpAny_bind (wpAny_dictEntries hob d2 ?_)
  rw [if_neg (by rw [hsz]; simp)]
  refine wpAny_bind (wpAny_dictEpoch hoa d1 ?_)
  refine wpAny_bind ?_
  rw [Std.Legacy.Range.forIn_eq_forIn_range']
  simp only [Std.Legacy.Range.size, Nat.sub_zero, Nat.add_sub_cancel, Nat.div_one]
  refine wpAny_forIn_list _ (fun rest q s' => Pure H s s' ∧ q = (none, ()) ∧ ∃ i, rest = List.range' i (es.size - i) ∧ i ≤ es.size) _ ?_ ?_ _ _ ⟨.refl inv, rfl, 0, by simp, Nat.zero_le _⟩
  · rintro x rest q s' ⟨qs, rfl, i, hr, hi⟩
    have hlt : i < es.size := by
      rcases Nat.lt_or_ge i es.size with h | h
      · exact h
      · rw [Nat.sub_eq_zero_of_le h] at hr; simp at hr
    obtain ⟨rfl, hrest⟩ : x = i ∧ rest = List.range' (i + 1) (es.size - (i + 1)) := by
      have e : es.size - i = (es.size - (i + 1)) + 1 := by omega
      rw [e, List.range'_succ] at hr
      injection hr with h1 h2
      exact ⟨h1, h2⟩
    have led' := led.keep qs.keep
    have hoa' := (led' _ _ h1).1
    have hob' := (led' _ _ h2).1
    refine wpAny_bind (wpAny_dictEntries hoa' d1 ?_)
    rw [Array.getElem?_eq_getElem hlt]
    obtain ⟨y, hy, hh, ik, iv⟩ := i1.get (i := x) (e := es[x]) (by rw [Array.getElem?_toList]; exact Array.getElem?_eq_getElem hlt)
    have hlt' : x < es'.size := hsz ▸ hlt
    obtain ⟨y', hy', _, _, iv'⟩ := i2.get (i := x) (e := es'[x]) (by rw [Array.getElem?_toList]; exact Array.getElem?_eq_getElem hlt')
    rw [hy] at hy'; cases hy'
    show wpAny _ _ (holding [es[x].key, es[x].val] _ >>= _) _ _ _
    rw [hh]
    refine wpAny_bind (wpAny_holding (wpAny_bind (find_pd led' ok.unit hob' d2 i2 ik (hkey x y hy) ?_)))
    refine wpAny_bind (wpAny_dictEntries hob' d2 ?_)
    rw [Array.getElem?_eq_getElem hlt']
    refine wpAny_holding (wpAny_mono (he y (List.mem_of_getElem? hy) A s' L _ _ ok qs.inv led' iv iv') (fun t s'' e => ?_) fun _ _ f => f.elim)
    obtain ⟨rfl, q'⟩ := e
    show wpAny _ _ (if (!true) = true then _ else _) _ _ _
    rw [if_neg (by decide)]
    have led'' := led'.keep q'.keep
    refine wpAny_bind (wpAny_dictEpoch (led'' _ _ h1).1 d1 ?_)
    rw [if_neg (by simp)]
    exact wpAny_pure ⟨qs.trans q', rfl, x + 1, hrest, hlt⟩
  · rintro q s' ⟨qs, rfl, i, hr, hi⟩
    exact wpAny_pure (h s' qs)
theorem RCJ.dict {xs : List (PD × PD)} {op : CmpOp} {r : Bool} (hop : (op = .Eq ∧ r = true) ∨ (op = .NotEq ∧ r = false)) (hkey : ∀ (i : Nat) x, xs[i]? = some x → KeyAt xs x.1 (some i)) (he : ∀ x ∈ xs, EQJ prog w (hkW w) H n x.2) : RCJ prog w (hkW w) H (n + 1) op (.dict xs) r := fun A s L u v ok inv led iu iv => by
  cases iu with
  | @dict a oa es ep _ h1 c1 d1 i1 =>
  cases iv with
  | @dict b ob es' ep' _ h2 c2 d2 i2 =>
    have hTa : s.TypeIs (.ref a) "dict" := ⟨_, (led _ _ h1).1, c1.1⟩
    have hTb : s.TypeIs (.ref b) "dict" := ⟨_, (led _ _ h2).1, c2.1⟩
    rcases hop with ⟨rfl, rfl⟩ | ⟨rfl, rfl⟩
    · refine wpAny_richCompare_same_room (op := .Eq) hTa hTb PySem.F.slot_dict_eq (wpAny_call_entry PySem.F.slot_dict_eq hTa PySem.F.entry_dict_eq ?_ (PySem.F.args_dict_eq_2 _ _)) ok.unit
      show wpAny _ _ (Builtin.Dict.dictSlotArgs "__eq__" ⟨[.ref a, .ref b], []⟩ >>= _) _ _ s
      refine wpAny_bind ?_
      unfold Builtin.Dict.dictSlotArgs
      refine wpAny_bind (wpAny_notOrdered_dict hTa ?_)
      show wpAny _ _ (pure (Value.ref a, Value.ref b)) _ _ s
      refine wpAny_pure ?_
      refine wpAny_bind (wpAny_isInstance (T := "dict") hTb PySem.F.sub_dict_dict ?_)
      simp only [Bool.not_true, Bool.false_eq_true, if_false]
      refine wpAny_bind (wpAny_pure (wpAny_bind (wpAny_pure ?_)))
      refine wpAny_bind (samePairs_pd h1 d1 i1 h2 d2 i2 hkey he ok.in1 inv led fun s' q => ?_)
      exact wpAny_pure ⟨_, rfl, (fun x => nomatch x), rfl, q⟩
    · refine wpAny_richCompare_same_room (op := .NotEq) hTa hTb PySem.F.slot_dict_ne (wpAny_call_entry PySem.F.slot_dict_ne hTa PySem.F.entry_dict_ne ?_ (PySem.F.args_dict_ne_2 _ _)) ok.unit
      show wpAny _ _ (Builtin.Dict.dictSlotArgs "__ne__" ⟨[.ref a, .ref b], []⟩ >>= _) _ _ s
      refine wpAny_bind ?_
      unfold Builtin.Dict.dictSlotArgs
      refine wpAny_bind (wpAny_notOrdered_dict hTa ?_)
      show wpAny _ _ (pure (Value.ref a, Value.ref b)) _ _ s
      refine wpAny_pure ?_
      refine wpAny_bind (wpAny_isInstance (T := "dict") hTb PySem.F.sub_dict_dict ?_)
      simp only [Bool.not_true, Bool.false_eq_true, if_false]
      refine wpAny_bind (wpAny_pure (wpAny_bind (wpAny_pure ?_)))
      refine wpAny_bind (samePairs_pd h1 d1 i1 h2 d2 i2 hkey he ok.in1 inv led fun s' q => ?_)
      exact wpAny_pure ⟨_, rfl, (fun x => nomatch x), rfl, q⟩
theorem EQJ.dict {xs : List (PD × PD)} (hkey : ∀ (i : Nat) x, xs[i]? = some x → KeyAt xs x.1 (some i)) (he : ∀ x ∈ xs, EQJ prog w (hkW w) H n x.2) : EQJ prog w (hkW w) H (n + 1) (.dict xs) := .ofRc (fun L v i => by cases i; exact ⟨_, rfl⟩) (.dict (.inl ⟨rfl, rfl⟩) hkey he)
end
end Mine
end

section -- C1
open PySem PySem.Calls PySem.W PyProof.Rows
set_option maxRecDepth 100000
set_option linter.unusedVariables false
namespace Mine
abbrev prg : Program := PySem.Challenge.rw_vc0019_01.row.prog
noncomputable abbrev KK (w : World) : Frag := hd.heap_39 w.params
section
variable {w : World}
theorem g_Kind : mgK (KK w) "Kind" = some (.ref 135) := by kernel_rfl
theorem g_Made : mgK (KK w) "Made" = some (.ref 206) := by kernel_rfl
theorem g_Attribute : mgK (KK w) "Attribute" = some (.ref 306) := by kernel_rfl
theorem g_kind_of : mgK (KK w) "kind_of" = some (.ref 217) := by kernel_rfl
theorem g_fields : mgK (KK w) "fields" = some (.ref 250) := by kernel_rfl
theorem g_is_atomic : mgK (KK w) "_is_atomic" = some (.ref 452) := by kernel_rfl
theorem g_gathered : mgK (KK w) "_gathered" = some (.ref 459) := by kernel_rfl
theorem g_wanted : mgK (KK w) "_wanted" = some (.ref 466) := by kernel_rfl
theorem g_asdict : mgK (KK w) "asdict" = some (.ref 472) := by kernel_rfl
theorem g_asdict_anything : mgK (KK w) "_asdict_anything" = some (.ref 477) := by kernel_rfl
theorem g_astuple : mgK (KK w) "astuple" = some (.ref 483) := by kernel_rfl
theorem g_has : mgK (KK w) "has" = some (.ref 490) := by kernel_rfl
theorem g_law_drawn : mgK (KK w) "_law_drawn" = some (.ref 495) := by kernel_rfl
theorem g_law_laid : mgK (KK w) "_law_laid" = some (.ref 500) := by kernel_rfl
theorem g_law_table : mgK (KK w) "_law_table" = some (.ref 505) := by kernel_rfl
theorem g_law_tuple : mgK (KK w) "_law_tuple" = some (.ref 510) := by kernel_rfl
theorem g_law : mgK (KK w) "law" = some (.ref 517) := by kernel_rfl
theorem g_make_class : mgK (KK w) "make_class" = some (.ref 403) := by kernel_rfl
theorem g_attrib : mgK (KK w) "attrib" = some (.ref 78) := by kernel_rfl
theorem g_NOTHING : mgK (KK w) "NOTHING" = some (.ref 70) := by kernel_rfl
theorem g_linear : mgK (KK w) "_linear" = some (.ref 144) := by kernel_rfl
theorem g_handed : mgK (KK w) "_handed" = some (.ref 149) := by kernel_rfl
theorem g_keyed : mgK (KK w) "_keyed" = some (.ref 224) := by kernel_rfl
theorem g_Factory : mgK (KK w) "Factory" = some (.ref 363) := by kernel_rfl
theorem g_Converter : mgK (KK w) "Converter" = some (.ref 392) := by kernel_rfl
theorem g_transform_attrs : mgK (KK w) "_transform_attrs" = some (.ref 97) := by kernel_rfl
theorem g_collect_base_attrs_broken : mgK (KK w) "_collect_base_attrs_broken" = some (.ref 92) := by kernel_rfl
theorem g_determine_attrib_eq_order : mgK (KK w) "_determine_attrib_eq_order" = some (.ref 243) := by kernel_rfl
theorem g_determine_attrs_eq_order : mgK (KK w) "_determine_attrs_eq_order" = some (.ref 236) := by kernel_rfl
theorem g_default_init_alias_for : mgK (KK w) "_default_init_alias_for" = some (.ref 257) := by kernel_rfl
theorem g_CountingAttr : mgK (KK w) "_CountingAttr" = some (.ref 341) := by kernel_rfl
theorem g_run_validators : mgK (KK w) "_run_validators" = some (.bool true) := by kernel_rfl
theorem b_isinstance : bootBuiltins "isinstance" = some (.builtin "isinstance") := by kernel_rfl
theorem m_isinstance : mgK (KK w) "isinstance" = none := by kernel_rfl
theorem b_len : bootBuiltins "len" = some (.builtin "len") := by kernel_rfl
theorem m_len : mgK (KK w) "len" = none := by kernel_rfl
theorem b_callable : bootBuiltins "callable" = some (.builtin "callable") := by kernel_rfl
theorem m_callable : mgK (KK w) "callable" = none := by kernel_rfl
theorem b_dict : bootBuiltins "dict" = some (.type "dict") := by kernel_rfl
theorem m_dict : mgK (KK w) "dict" = none := by kernel_rfl
theorem b_list : bootBuiltins "list" = some (.type "list") := by kernel_rfl
theorem m_list : mgK (KK w) "list" = none := by kernel_rfl
theorem b_tuple : bootBuiltins "tuple" = some (.type "tuple") := by kernel_rfl
theorem m_tuple : mgK (KK w) "tuple" = none := by kernel_rfl
theorem b_set : bootBuiltins "set" = some (.type "set") := by kernel_rfl
theorem m_set : mgK (KK w) "set" = none := by kernel_rfl
theorem b_frozenset : bootBuiltins "frozenset" = some (.type "frozenset") := by kernel_rfl
theorem m_frozenset : mgK (KK w) "frozenset" = none := by kernel_rfl
theorem b_bool : bootBuiltins "bool" = some (.type "bool") := by kernel_rfl
theorem m_bool : mgK (KK w) "bool" = none := by kernel_rfl
theorem b_int : bootBuiltins "int" = some (.type "int") := by kernel_rfl
theorem m_int : mgK (KK w) "int" = none := by kernel_rfl
theorem b_str : bootBuiltins "str" = some (.type "str") := by kernel_rfl
theorem m_str : mgK (KK w) "str" = none := by kernel_rfl
theorem b_bytes : bootBuiltins "bytes" = some (.type "bytes") := by kernel_rfl
theorem m_bytes : mgK (KK w) "bytes" = none := by kernel_rfl
theorem b_zip : bootBuiltins "zip" = some (.type "zip") := by kernel_rfl
theorem m_zip : mgK (KK w) "zip" = none := by kernel_rfl
theorem b_range : bootBuiltins "range" = some (.type "range") := by kernel_rfl
theorem m_range : mgK (KK w) "range" = none := by kernel_rfl
theorem b_enumerate : bootBuiltins "enumerate" = some (.type "enumerate") := by kernel_rfl
theorem m_enumerate : mgK (KK w) "enumerate" = none := by kernel_rfl
theorem ok_217 : defOk (KK w) 217 = true := by kernel_rfl
theorem ok_250 : defOk (KK w) 250 = true := by kernel_rfl
theorem ok_452 : defOk (KK w) 452 = true := by kernel_rfl
theorem ok_459 : defOk (KK w) 459 = true := by kernel_rfl
theorem ok_466 : defOk (KK w) 466 = true := by kernel_rfl
theorem ok_472 : defOk (KK w) 472 = true := by kernel_rfl
theorem ok_477 : defOk (KK w) 477 = true := by kernel_rfl
theorem ok_483 : defOk (KK w) 483 = true := by kernel_rfl
theorem ok_490 : defOk (KK w) 490 = true := by kernel_rfl
theorem ok_495 : defOk (KK w) 495 = true := by kernel_rfl
theorem ok_500 : defOk (KK w) 500 = true := by kernel_rfl
theorem ok_505 : defOk (KK w) 505 = true := by kernel_rfl
theorem ok_510 : defOk (KK w) 510 = true := by kernel_rfl
theorem ok_517 : defOk (KK w) 517 = true := by kernel_rfl
theorem ok_403 : defOk (KK w) 403 = true := by kernel_rfl
theorem ok_78 : defOk (KK w) 78 = true := by kernel_rfl
theorem ok_144 : defOk (KK w) 144 = true := by kernel_rfl
theorem ok_149 : defOk (KK w) 149 = true := by kernel_rfl
theorem ok_224 : defOk (KK w) 224 = true := by kernel_rfl
theorem ok_97 : defOk (KK w) 97 = true := by kernel_rfl
theorem ok_92 : defOk (KK w) 92 = true := by kernel_rfl
theorem ok_243 : defOk (KK w) 243 = true := by kernel_rfl
theorem ok_236 : defOk (KK w) 236 = true := by kernel_rfl
theorem ok_257 : defOk (KK w) 257 = true := by kernel_rfl
end
section
variable {w : World} {hk : PD → Int} {H : Heap} {n : Nat} {F : Fm} {look : Look}
/-- a name of the top's -/
theorem EV.gk {x : Str} {pos : Pos} {v : Value} (X : Env0 (KK w) H) (hv : mgK (KK w) x = some v := by first | with_reducible exact g_Kind | with_reducible exact g_Made | with_reducible exact g_Attribute | with_reducible exact g_kind_of | with_reducible exact g_fields | with_reducible exact g_is_atomic | with_reducible exact g_gathered | with_reducible exact g_wanted | with_reducible exact g_asdict | with_reducible exact g_asdict_anything | with_reducible exact g_astuple | with_reducible exact g_has | with_reducible exact g_law_drawn | with_reducible exact g_law_laid | with_reducible exact g_law_table | with_reducible exact g_law_tuple | with_reducible exact g_law | with_reducible exact g_make_class | with_reducible exact g_attrib | with_reducible exact g_NOTHING | with_reducible exact g_linear | with_reducible exact g_handed | with_reducible exact g_keyed | with_reducible exact g_Factory | with_reducible exact g_Converter | with_reducible exact g_transform_attrs | with_reducible exact g_collect_base_attrs_broken | with_reducible exact g_determine_attrib_eq_order | with_reducible exact g_determine_attrs_eq_order | with_reducible exact g_default_init_alias_for | with_reducible exact g_CountingAttr | with_reducible exact g_run_validators | rfl) (hx : (F.sc.names.lookup x == some .globalImplicit) = true := by rfl) (hd : (x == ("__debug__" : Str)) = false := by rfl) : EV prg w hk H n F look (.Name x pos) (.val v) := EV.g X hv hx hd
/-- a name of the builtins' -/
theorem EV.bk {x : Str} {pos : Pos} {v : Value} (X : Env0 (KK w) H) (hm : mgK (KK w) x = .none := by first | with_reducible exact m_isinstance | with_reducible exact m_len | with_reducible exact m_callable | with_reducible exact m_dict | with_reducible exact m_list | with_reducible exact m_tuple | with_reducible exact m_set | with_reducible exact m_frozenset | with_reducible exact m_bool | with_reducible exact m_int | with_reducible exact m_str | with_reducible exact m_bytes | with_reducible exact m_zip | with_reducible exact m_range | with_reducible exact m_enumerate | rfl) (hb : bootBuiltins x = some v := by first | with_reducible exact b_isinstance | with_reducible exact b_len | with_reducible exact b_callable | with_reducible exact b_dict | with_reducible exact b_list | with_reducible exact b_tuple | with_reducible exact b_set | with_reducible exact b_frozenset | with_reducible exact b_bool | with_reducible exact b_int | with_reducible exact b_str | with_reducible exact b_bytes | with_reducible exact b_zip | with_reducible exact b_range | with_reducible exact b_enumerate | rfl) (hx : (F.sc.names.lookup x == some .globalImplicit) = true := by rfl) (hn : (x == ("__name__" : Str)) = false := by rfl) (hd : (x == ("__debug__" : Str)) = false := by rfl) : EV prg w hk H n F look (.Name x pos) (.val v) := EV.b X hm hb hx hn hd
end
section
variable {w : World} {hk : PD → Int} {H : Heap} {n : Nat} {k : Addr} {p q d : PD} {F : Fm} {look : Look}
/-- a call of a def with positions alone, of one, two arguments -/
theorem FN.k1 {a : Addr} {x : Str} {d1 d : PD} (wc : List Str) (X : Env0 (KK w) H) (hok : defOk (KK w) a = true) (hb : ∀ u, bindArgs (fdOf (KK w) a) ⟨[u], []⟩ = pure [(x, u)]) (hx : ([x].all fun x => (fdOf (KK w) a).scope.names.lookup x == some .local || (fdOf (KK w) a).scope.names.lookup x == some .cell) = true)
    (h : EX prg w hk H n ⟨(fdOf (KK w) a).scope, some (codeOf (fdOf (KK w) a)), .none⟩ wc (fun y => ([x].zip [d1]).lookup y) [] (bodyOf (fdOf (KK w) a)) (Rets d)) : FN prg w hk H (n + 1) (.val (.ref a)) [d1] [] d :=
  FN.defK (names := [x]) wc X hok (BINDS.pos (len1 rfl hb)) (by simp) hx h

theorem KP.K {a : Addr} (X : Env0 (KK w) H) (h : defOk (KK w) a = true) : KP prg w hk H (.val (.ref a)) := by
  obtain ⟨o, ho, hc, hd⟩ := (DefAt.ofK X.at_ h).obj
  exact KP.fn ho hc hd
theorem KP.Kk {a : Addr} (X : Env0 (KK w) H) (h : defOk (KK w) a = true := by first | with_reducible exact ok_217 | with_reducible exact ok_250 | with_reducible exact ok_452 | with_reducible exact ok_459 | with_reducible exact ok_466 | with_reducible exact ok_472 | with_reducible exact ok_477 | with_reducible exact ok_483 | with_reducible exact ok_490 | with_reducible exact ok_495 | with_reducible exact ok_500 | with_reducible exact ok_505 | with_reducible exact ok_510 | with_reducible exact ok_517 | with_reducible exact ok_403 | with_reducible exact ok_78 | with_reducible exact ok_144 | with_reducible exact ok_149 | with_reducible exact ok_224 | with_reducible exact ok_97 | with_reducible exact ok_92 | with_reducible exact ok_243 | with_reducible exact ok_236 | with_reducible exact ok_257 | rfl) : KP prg w hk H (.val (.ref a)) := KP.K X h
theorem has_kind (X : Env0 (KK w) H) : FN prg w hk H (n + 1) (.val (.ref 490)) [.kind k] [] (.val (.bool true)) := by
  refine FN.k1 (x := "cls") [] X rfl (fun u => by kernel_rfl) rfl ?_
  refine EX.ret (d := .val (.bool true)) ?_ rfl
  exact EV.callF (EV.bk X) (.cons (EV.name rfl) (.cons (EV.gk X) .nil)) .nil KP.blt (FN.isi1 X.toKOk rfl rfl)
/-- the builtin kinds of the values -/
def plainT : List String := ["list", "tuple", "dict", "int", "str", "NoneType"]
theorem isiT_kind (X : Env0 (KK w) H) {T : String} (hT : T ∈ plainT) : FN prg w hk H n (.val (.builtin "isinstance")) [.val (.type T), .val (.ref kindC)] [] (.val (.bool false)) := by
  simp only [plainT, List.mem_cons, List.not_mem_nil, or_false] at hT
  rcases hT with rfl | rfl | rfl | rfl | rfl | rfl <;> exact FN.isiT X.toKOk (by kernel_rfl) (by kernel_rfl) (by kernel_rfl) (by kernel_rfl)
theorem has_type (X : Env0 (KK w) H) {T : String} (hT : T ∈ plainT) : FN prg w hk H (n + 1) (.val (.ref 490)) [.val (.type T)] [] (.val (.bool false)) := by
  refine FN.k1 (x := "cls") [] X rfl (fun u => by kernel_rfl) rfl ?_
  refine EX.ret (d := .val (.bool false)) ?_ rfl
  exact EV.callF (EV.bk X) (.cons (EV.name rfl) (.cons (EV.gk X) .nil)) .nil KP.blt (isiT_kind X hT)
theorem kindOf_obj (X : Env0 (KK w) H) : FN prg w hk H (n + 1) (.val (.ref 217)) [.obj k p q] [] (.kind k) := by
  refine FN.k1 (x := "thing") [] X rfl (fun u => by kernel_rfl) rfl ?_
  refine EX.ret (d := .kind k) ?_ rfl
  refine EV.ifT (ET.val (d := .val (.bool true)) (EV.callF (EV.bk X) (.cons (EV.name rfl) (.cons (EV.gk X) .nil)) .nil KP.blt (FN.isi1 X.toKOk rfl rfl)) (.bool _)) ?_
  exact EV.attr (EV.name rfl) (AT.objKind X.toKOk (by kernel_rfl) (by kernel_rfl) (a := _) (by rfl) (by kernel_rfl))
/-- the name of a plain datum's class -/
def nameD : PD → Option String
  | .int _ => some "int"
  | .str _ => some "str"
  | .list _ => some "list"
  | .tup _ => some "tuple"
  | .dict _ => some "dict"
  | .val .none => some "NoneType"
  | _ => none
theorem nameD_mem {d : PD} {T : String} (h : nameD d = some T) : T ∈ plainT := by
  unfold nameD at h
  split at h <;> simp at h <;> subst h <;> simp [plainT]
theorem nameD_ty {d : PD} {T : String} (h : nameD d = some T) : tyD d = some (.type T) := by
  unfold nameD at h
  split at h <;> simp at h <;> subst h <;> rfl
theorem kindOf_other (X : Env0 (KK w) H) {T : String} (hT : nameD d = some T) : FN prg w hk H (n + 1) (.val (.ref 217)) [d] [] (.val (.type T)) := by
  refine FN.k1 (x := "thing") [] X rfl (fun u => by kernel_rfl) rfl ?_
  refine EX.ret (d := .val (.type T)) ?_ rfl
  refine EV.ifF (ET.val (d := .val (.bool false)) (EV.callF (EV.bk X) (.cons (EV.name rfl) (.cons (EV.gk X) .nil)) .nil KP.blt (FN.isi1 X.toKOk (nameD_ty hT) ?_)) (.bool _)) ?_
  · have hm := nameD_mem hT
    simp only [plainT, List.mem_cons, List.not_mem_nil, or_false] at hm
    rcases hm with rfl | rfl | rfl | rfl | rfl | rfl <;> kernel_rfl
  · refine EV.attr (EV.name rfl) (AT.cls ?_)
    unfold nameD at hT
    split at hT <;> simp at hT <;> subst hT <;> trivial
theorem fields_kind (X : Env0 (KK w) H) : FN prg w hk H (n + 1) (.val (.ref 250)) [.kind k] [] (.tup [.attr "p", .attr "q"]) := by
  refine FN.k1 (x := "cls") [] X rfl (fun u => by kernel_rfl) rfl ?_
  refine EX.ifF (ET.val (d := .val (.bool false)) (EV.callF (EV.bk X) (.cons (EV.name rfl) (.cons (EV.gk X) .nil)) .nil KP.blt (FN.isi1 X.toKOk rfl (by kernel_rfl))) (.bool _)) (EX.nil ?_)
  refine EX.ifF (ET.not (b := true) (ET.val (d := .val (.bool true)) (EV.callF (EV.bk X) (.cons (EV.name rfl) (.cons (EV.gk X) .nil)) .nil KP.blt (FN.isi1 X.toKOk rfl (by kernel_rfl))) (.bool _))) (EX.nil ?_)
  exact EX.ret (EV.attr (EV.name rfl) (AT.kindAttrs X.toKOk (by kernel_rfl) (by kernel_rfl) (a := _) (by rfl) (by kernel_rfl))) rfl
theorem fields_obj (X : Env0 (KK w) H) : FN prg w hk H (n + 2) (.val (.ref 250)) [.obj k p q] [] (.tup [.attr "p", .attr "q"]) := by
  refine FN.k1 (x := "cls") [] X rfl (fun u => by kernel_rfl) rfl ?_
  refine EX.ifT (ET.val (d := .val (.bool true)) (EV.callF (EV.bk X) (.cons (EV.name rfl) (.cons (EV.gk X) .nil)) .nil KP.blt (FN.isi1 X.toKOk rfl (by kernel_rfl))) (.bool _)) ?_
  refine EX.ret (d := .tup [.attr "p", .attr "q"]) ?_ rfl
  refine EV.callF (EV.gk X) (.cons (EV.attr (EV.name rfl) (AT.objKind X.toKOk (by kernel_rfl) (by kernel_rfl) (a := _) (by rfl) (by kernel_rfl))) .nil) .nil (KP.Kk X) (fields_kind X)
/-- plain data that is no container -/
def atomD : PD → Bool
  | .int _ => true
  | .str _ => true
  | .val .none => true
  | _ => false
theorem isAtomic_none (X : Env0 (KK w) H) : FN prg w hk H (n + 1) (.val (.ref 452)) [.val .none] [] (.val (.bool true)) := by
  refine FN.k1 (x := "value") [] X rfl (fun u => by kernel_rfl) rfl ?_
  refine EX.ret (d := .val (.bool true)) ?_ rfl
  exact EV.or2T (EV.cmp (EV.name rfl) EV.none CMP.isNone) (.bool _)
theorem isAtomic (X : Env0 (KK w) H) {t : Value} {b : Bool} (hn : isNoneD d = false) (ht : tyD d = some t) (hk : kitAny (KK w) t [.type "bool", .type "int", .type "str", .type "bytes"] = some b) {hk' : PD → Int} : FN prg w hk' H (n + 1) (.val (.ref 452)) [d] [] (.val (.bool b)) := by
  refine FN.k1 (x := "value") [] X rfl (fun u => by kernel_rfl) rfl ?_
  refine EX.ret (d := .val (.bool b)) ?_ rfl
  refine EV.or2F (d := .val (.bool false)) (EV.cmp (EV.name rfl) EV.none (CMP.none' hn)) (.bool _) ?_
  exact EV.callF (EV.bk X) (.cons (EV.name rfl) (.cons (EV.tup (ds := [.type "bool", .type "int", .type "str", .type "bytes"].map .val) (.cons (EV.bk X) (.cons (EV.bk X) (.cons (EV.bk X) (.cons (EV.bk X) .nil))))) .nil)) .nil KP.blt (FN.isiN X.toKOk ht hk)
end
end Mine
end

section -- C2
open PySem PySem.Calls PySem.W PyProof.Rows PySem.SeqAt PySem.MeetsSeq
set_option maxRecDepth 100000
set_option linter.unusedVariables false
namespace Mine
section
variable {w : World} {H : Heap} {n : Nat} {k : Addr} {p q d : PD} {F : Fm} {look : Look} {hk : PD → Int}
theorem FN.k2 {a : Addr} {x y : Str} {d1 d2 d : PD} (wc : List Str) (X : Env0 (KK w) H) (hok : defOk (KK w) a = true) (hb : ∀ u v, bindArgs (fdOf (KK w) a) ⟨[u, v], []⟩ = pure [(x, u), (y, v)]) (hxy : x ≠ y) (hx : ([x, y].all fun x => (fdOf (KK w) a).scope.names.lookup x == some .local || (fdOf (KK w) a).scope.names.lookup x == some .cell) = true)
    (h : EX prg w hk H n ⟨(fdOf (KK w) a).scope, some (codeOf (fdOf (KK w) a)), .none⟩ wc (fun z => ([x, y].zip [d1, d2]).lookup z) [] (bodyOf (fdOf (KK w) a)) (Rets d)) : FN prg w hk H (n + 1) (.val (.ref a)) [d1, d2] [] d :=
  FN.defK (names := [x, y]) wc X hok (BINDS.pos (len2 rfl hb)) (by simp [hxy]) hx h
theorem gathered_tup (X : Env0 (KK w) H) {ds ys : List PD} (hz : ds.length ≤ sizeLine) : FN prg w hk H (n + 1) (.val (.ref 459)) [.list ds, .tup ys] [] (.tup ds) := by
  refine FN.k2 (x := "items") (y := "like") [] X rfl (fun u v => by kernel_rfl) (by decide) rfl ?_
  refine EX.ifT (ET.val (d := .val (.bool true)) (EV.callF (EV.bk X) (.cons (EV.name rfl) (.cons (EV.bk X) .nil)) .nil KP.blt (FN.isi1 X.toKOk rfl (by kernel_rfl))) (.bool _)) ?_
  exact EX.ret (EV.callF (EV.bk X) (.cons (EV.name rfl) .nil) .nil KP.type (FN.tupleOf hz)) rfl
theorem gathered_list (X : Env0 (KK w) H) {ds ys : List PD} : FN prg w hk H (n + 1) (.val (.ref 459)) [.list ds, .list ys] [] (.list ds) := by
  refine FN.k2 (x := "items") (y := "like") [] X rfl (fun u v => by kernel_rfl) (by decide) rfl ?_
  refine EX.ifF (ET.val (d := .val (.bool false)) (EV.callF (EV.bk X) (.cons (EV.name rfl) (.cons (EV.bk X) .nil)) .nil KP.blt (FN.isi1 X.toKOk rfl (by kernel_rfl))) (.bool _)) (EX.nil ?_)
  refine EX.ifF (ET.val (d := .val (.bool false)) (EV.callF (EV.bk X) (.cons (EV.name rfl) (.cons (EV.bk X) .nil)) .nil KP.blt (FN.isi1 X.toKOk rfl (by kernel_rfl))) (.bool _)) (EX.nil ?_)
  refine EX.ifF (ET.val (d := .val (.bool false)) (EV.callF (EV.bk X) (.cons (EV.name rfl) (.cons (EV.bk X) .nil)) .nil KP.blt (FN.isi1 X.toKOk rfl (by kernel_rfl))) (.bool _)) (EX.nil ?_)
  exact EX.ret (EV.name rfl) rfl
theorem wanted_none (X : Env0 (KK w) H) {wv : PD} : FN prg w (hkW w) H (n + 2) (.val (.ref 466)) [wv, .dict []] [] wv := by
  refine FN.k2 (x := "wanted") (y := "named") [] X rfl (fun u v => by kernel_rfl) (by decide) rfl ?_
  refine .step (EX1.for (t := .Name "name" _) (items := []) (f := fun _ l => l) (fun _ l o => l = (fun z => ((["wanted", "named"] : List Str).zip [wv, .dict []]).lookup z) ∧ o = []) ?_ ⟨rfl, rfl⟩ (by rintro i l o ⟨rfl, rfl⟩; rfl) (fun x hx => nomatch hx) (fun i x l o hx => by simp at hx) ?_)
  · exact IT.keys (xs := []) (EV.name rfl) (by simp)
  · rintro l o ⟨rfl, rfl⟩
    refine EX.ret (d := wv) ?_ rfl
    exact EV.meth (EV.name rfl) (.cons EV.str (.cons (EV.name rfl) .nil)) (MT.get (by omega) (.inr ⟨.of rfl, rfl⟩))
theorem wanted_some (X : Env0 (KK w) H) {wv fv : PD} : FN prg w (hkW w) H (n + 2) (.val (.ref 466)) [wv, .dict [(.str "filter", fv)]] [] fv := by
  refine FN.k2 (x := "wanted") (y := "named") [] X rfl (fun u v => by kernel_rfl) (by decide) rfl ?_
  refine .step (EX1.for (t := .Name "name" _) (items := [.one (.str "filter")]) (f := fun _ l => upd l "name" (.str "filter")) (fun i l o => (∀ z d, ((["wanted", "named"] : List Str).zip [wv, .dict [(.str "filter", fv)]]).lookup z = some d → l z = some d) ∧ o = []) ?_ ⟨fun _ _ e => e, rfl⟩ (by rintro i l o ⟨_, rfl⟩; rfl) (fun x hx => ?_) (fun i x l o hx hJ => ?_) ?_)
  · exact IT.keys (xs := [("filter", fv)]) (EV.name rfl) (by simp) (sz rfl)
  · obtain rfl := List.mem_singleton.mp hx
    exact TGI.one TG.name
  · obtain ⟨hl, rfl⟩ := hJ
    refine EX.ifF (ET.cmp (EV.name (d := .str "filter") rfl) EV.str CMP.neStr) (EX.nil (EX.nil ⟨fun z d e => ?_, rfl⟩))
    show upd l "name" _ z = some d
    unfold upd
    by_cases hz : z = "name"
    · subst hz; cases e
    · rw [if_neg hz]; exact hl z d e
  · rintro l o ⟨hl, rfl⟩
    refine EX.ret (d := fv) ?_ rfl
    exact EV.meth (EV.name (hl _ _ rfl)) (.cons EV.str (.cons (EV.name (hl _ _ rfl)) .nil)) (MT.get (by omega) (.inl ⟨0, .str "filter", .of rfl, rfl⟩))
end
end Mine
end

section -- C3
open PySem PySem.Calls PySem.W PyProof.Rows PySem.SeqAt PySem.MeetsSeq
set_option maxRecDepth 100000
set_option linter.unusedVariables false
namespace Mine
section
variable {w : World} {H : Heap} {n : Nat} {k : Addr} {p q d : PD} {F : Fm} {look : Look} {hk : PD → Int}
/-- the kinds of what a hook meets -/
def tyS : PD → Option Value
  | .int _ => some (.type "int")
  | .str _ => some (.type "str")
  | .list _ => some (.type "list")
  | .tup _ => some (.type "tuple")
  | .dict _ => some (.type "dict")
  | .obj _ _ _ => some (.ref madeC)
  | .val .none => some (.type "NoneType")
  | _ => Option.none
/-- the hook that may turn a value -/
structure Ser (w : World) (H : Heap) (sv : PD) (tn : Bool) : Prop where
  no : tn = false → sv = .val .none
  is : tn = true → isNoneD sv = false ∧ KP prg w (hkW w) H sv ∧ ∀ n d1 d2 d t, tyS d = some t → FN prg w (hkW w) H (n + 1) sv [d1, d2, d] [] (turnD d)
def anyNames : List Str := ["val", "is_key", "wanted", "dict_factory", "retain_collection_types", "value_serializer"]
def anyKs (ik : Bool) (wv sv : PD) (keep : Bool) : List (Str × PD) := [("is_key", .val (.bool ik)), ("wanted", wv), ("dict_factory", .val (.type "dict")), ("retain_collection_types", .val (.bool keep)), ("value_serializer", sv)]
def Any (w : World) (H : Heap) (wv sv : PD) (keep ik : Bool) (n : Nat) (d r : PD) : Prop := FN prg w (hkW w) H n (.val (.ref 477)) [d] (anyKs ik wv sv keep) r
abbrev anyWc : List Str := ["wanted", "dict_factory", "retain_collection_types", "value_serializer", "df"]
theorem any_begin (X : Env0 (KK w) H) {wv sv d r : PD} {keep ik : Bool} (h : EX prg w (hkW w) H n ⟨(fdOf (KK w) 477).scope, some (codeOf (fdOf (KK w) 477)), .none⟩ anyWc (fun z => (anyNames.zip [d, .val (.bool ik), wv, .val (.type "dict"), .val (.bool keep), sv]).lookup z) [] (bodyOf (fdOf (KK w) 477)) (Rets r)) : Any w H wv sv keep ik (n + 1) d r := by
  refine FN.defK (names := anyNames) (ds := [d, .val (.bool ik), wv, .val (.type "dict"), .val (.bool keep), sv]) anyWc X rfl ?_ (by decide) rfl h
  exact BINDS.kw (ps := [d]) (fun vs us h1 h2 => by
    match vs, h1, us, h2 with
    | [a], _, [b, c, e, f, g], _ => kernel_rfl) rfl
/-- the turned value of an atomic one -/
theorem any_atom (X : Env0 (KK w) H) {wv sv d : PD} {keep ik tn : Bool} (S : Ser w H sv tn) {t : Value} (ht : tyS d = some t) (hat : FN prg w (hkW w) H (n + 1) (.val (.ref 452)) [d] [] (.val (.bool true))) : Any w H wv sv keep ik (n + 2) d (keyT tn d) := by
  refine any_begin X ?_
  refine EX.ifT (ET.val (d := .val (.bool true)) (EV.callF (EV.gk X) (.cons (EV.name rfl) .nil) .nil (KP.Kk X) hat) (.bool _)) ?_
  refine EX.assign (EV.name rfl) ?_
  cases tn with
  | false =>
    obtain rfl := S.no rfl
    refine EX.ifF (ET.cmp (EV.name rfl) EV.none (CMP.notNone' rfl)) (EX.nil (EX.nil ?_))
    exact EX.ret (EV.name rfl) rfl
  | true =>
    obtain ⟨s1, s2, s3⟩ := S.is rfl
    refine EX.ifT (ET.cmp (EV.name rfl) EV.none (CMP.notNone' (b := true) s1)) (EX.assign (d1 := turnD d) (EV.callF (EV.name rfl) (.cons EV.none (.cons EV.none (.cons (EV.name rfl) .nil))) .nil s2 (s3 n _ _ _ t ht)) (EX.nil (EX.nil ?_)))
    exact EX.ret (EV.name rfl) rfl
end
end Mine
end

section -- C4
open PySem PySem.Calls PySem.W PyProof.Rows PySem.SeqAt PySem.MeetsSeq
set_option maxRecDepth 100000
set_option linter.unusedVariables false
namespace Mine
section
variable {w : World} {H : Heap} {n : Nat} {k : Addr} {p q d : PD} {F : Fm} {look : Look} {hk : PD → Int}
noncomputable abbrev anyF (w : World) : Fm := ⟨(fdOf (KK w) 477).scope, some (codeOf (fdOf (KK w) 477)), .none⟩
/-- the test whether a datum is no object of a class made -/
theorem ET.hasNot {x : Str} {p1 p2 p3 p4 p5 : Pos} (X : Env0 (KK w) H) {T : String} (hx : look x = some d) (hT : nameD d = some T) (hdb : (x == ("__debug__" : Str)) = false := by rfl) (h1 : (F.sc.names.lookup ("has" : Str) == some .globalImplicit) = true := by rfl) (h2 : (F.sc.names.lookup ("kind_of" : Str) == some .globalImplicit) = true := by rfl) :
    ET prg w hk H (n + 1) F look (.Call (.Name ("has" : Str) p1) [.Call (.Name ("kind_of" : Str) p2) [.Name x p3] [] p4] [] p5) false :=
  ET.val (d := .val (.bool false)) (EV.callF (EV.gk X (hx := h1)) (.cons (EV.callF (EV.gk X (hx := h2)) (.cons (EV.name hx hdb) .nil) .nil (KP.Kk X) (kindOf_other X hT)) .nil) .nil (KP.Kk X) (has_type X (nameD_mem hT))) (.bool _)
theorem ET.hasObj {x : Str} {p1 p2 p3 p4 p5 : Pos} (X : Env0 (KK w) H) (hx : look x = some (.obj k p q)) (hdb : (x == ("__debug__" : Str)) = false := by rfl) (h1 : (F.sc.names.lookup ("has" : Str) == some .globalImplicit) = true := by rfl) (h2 : (F.sc.names.lookup ("kind_of" : Str) == some .globalImplicit) = true := by rfl) :
    ET prg w hk H (n + 1) F look (.Call (.Name ("has" : Str) p1) [.Call (.Name ("kind_of" : Str) p2) [.Name x p3] [] p4] [] p5) true :=
  ET.val (d := .val (.bool true)) (EV.callF (EV.gk X (hx := h1)) (.cons (EV.callF (EV.gk X (hx := h2)) (.cons (EV.name hx hdb) .nil) .nil (KP.Kk X) (kindOf_obj X)) .nil) .nil (KP.Kk X) (has_kind X)) (.bool _)
/-- rows and tuples, item by item -/
theorem any_list (X : Env0 (KK w) H) {wv sv : PD} {keep : Bool} {ds rs : List PD} (hlen : rs.length = ds.length) (hz : ds.length ≤ sizeLine) (hch : ∀ (i : Nat) x r, ds[i]? = some x → rs[i]? = some r → Any w H wv sv keep false (n + 1) x r) : Any w H wv sv keep false (n + 2) (.list ds) (.list rs) := by
  refine any_begin X ?_
  refine EX.ifF (ET.val (d := .val (.bool false)) (EV.callF (EV.gk X) (.cons (EV.name rfl) .nil) .nil (KP.Kk X) (isAtomic X rfl rfl (by kernel_rfl))) (.bool _)) ?_
  refine EX.ifF (ET.hasNot X rfl rfl) ?_
  refine EX.ifT (ET.val (d := .val (.bool true)) (EV.callF (EV.bk X) (.cons (EV.name rfl) (.cons (EV.tup (ds := [.type "tuple", .type "list", .type "set", .type "frozenset"].map .val) (.cons (EV.bk X) (.cons (EV.bk X) (.cons (EV.bk X) (.cons (EV.bk X) .nil))))) .nil)) .nil KP.blt (FN.isiN X.toKOk rfl (by kernel_rfl))) (.bool _)) ?_
  refine EX.assignListI (rs := rs) (f := fun x l => match x with | .one d => upd l "i" d | _ => l) (IT.list (EV.name rfl)) (by rw [List.length_map]; exact hz) (.of (by rfl)) (by rw [List.length_map]; exact hlen) (fun x hx => ?_) (fun x hx => ?_) (fun i x r hx hr => ?_) ?_
  · obtain ⟨d, _, rfl⟩ := List.mem_map.mp hx; exact TGI.one TG.name
  · obtain ⟨d, _, rfl⟩ := List.mem_map.mp hx; exact compLook_upd (by rfl)
  · rw [List.getElem?_map] at hx
    obtain ⟨d, hd, rfl⟩ := Option.map_eq_some_iff.mp hx
    refine EV.callF (EV.gk X) (.cons (EV.name rfl) .nil) (.cons EV.bool (.cons (EV.name rfl) (.cons (EV.name rfl) (.cons (EV.name rfl) (.cons (EV.name rfl) .nil))))) (KP.Kk X) (hch i d r hd hr)
  · cases keep with
    | true =>
      refine EX.ifT (ET.cmp (EV.name rfl) EV.bool CMP.is) (EX.assign (d1 := .list rs) (EV.callF (EV.gk X) (.cons (EV.name rfl) (.cons (EV.name rfl) .nil)) .nil (KP.Kk X) (gathered_list X)) (EX.nil (EX.nil (EX.nil (EX.nil ?_)))))
      exact EX.ret (EV.name rfl) rfl
    | false =>
      refine EX.ifF (ET.cmp (EV.name rfl) EV.bool CMP.is) (EX.ifF (ET.val (EV.name rfl) (.bool _)) (EX.assign (EV.name rfl) (EX.nil (EX.nil (EX.nil (EX.nil (EX.nil ?_)))))))
      exact EX.ret (EV.name rfl) rfl
end
end Mine
end

section -- C5
open PySem PySem.Calls PySem.W PyProof.Rows PySem.SeqAt PySem.MeetsSeq
set_option maxRecDepth 100000
set_option linter.unusedVariables false
namespace Mine
/-- the tables of the codes that make generators -/
structure Env1 (w : World) (H : Heap) : Prop extends Env0 (KK w) H where
  t477 : ∃ P, NP P ∧ ∃ ps, H.IsCode (codeOf (fdOf (KK w) 477)) P ps ∧ H.TableAt (codeOf (fdOf (KK w) 477)) P ps
  t472 : ∃ P, NP P ∧ ∃ ps, H.IsCode (codeOf (fdOf (KK w) 472)) P ps ∧ H.TableAt (codeOf (fdOf (KK w) 472)) P ps
  t483 : ∃ P, NP P ∧ ∃ ps, H.IsCode (codeOf (fdOf (KK w) 483)) P ps ∧ H.TableAt (codeOf (fdOf (KK w) 483)) P ps
/-- what a table's item is told as -/
def kdOf (es out : List (PD × PD)) : Item → PD × PD
  | .tup (k0 :: _) => (out[es.findIdx fun y => keyEq y.1 k0]?).getD (.val .none, .val .none)
  | _ => (.val .none, .val .none)
theorem kdOf_at {es out : List (PD × PD)} (hlen : out.length = es.length) (hidx : ∀ (i : Nat) e, es[i]? = some e → (es.findIdx fun y => keyEq y.1 e.1) = i) {i : Nat} {x : Item} (hx : (es.map fun p => Item.tup [p.1, p.2])[i]? = some x) :
    ∃ e o, es[i]? = some e ∧ out[i]? = some o ∧ x = .tup [e.1, e.2] ∧ kdOf es out x = o := by
  rw [List.getElem?_map] at hx
  obtain ⟨e, he, rfl⟩ := Option.map_eq_some_iff.mp hx
  have hi : i < out.length := by rw [hlen]; exact (List.getElem?_eq_some_iff.mp he).1
  refine ⟨e, out[i], he, List.getElem?_eq_getElem hi, rfl, ?_⟩
  show (out[es.findIdx fun y => keyEq y.1 e.1]?).getD _ = _
  rw [hidx i e he, List.getElem?_eq_getElem hi]; rfl
theorem kdOf_map {es out : List (PD × PD)} (hlen : out.length = es.length) (hidx : ∀ (i : Nat) e, es[i]? = some e → (es.findIdx fun y => keyEq y.1 e.1) = i) : (es.map fun p => Item.tup [p.1, p.2]).map (kdOf es out) = out := by
  refine List.ext_getElem? fun i => ?_
  rw [List.getElem?_map]
  cases hx : (es.map fun p => Item.tup [p.1, p.2])[i]? with
  | none =>
    have : (es.map fun p => Item.tup [p.1, p.2]).length ≤ i := List.getElem?_eq_none_iff.mp hx
    rw [List.length_map] at this
    rw [Option.map_none, List.getElem?_eq_none (by omega)]
  | some x =>
    obtain ⟨e, o, _, ho, _, hk⟩ := kdOf_at hlen hidx hx
    rw [Option.map_some, hk, ho]
section
variable {w : World} {H : Heap} {n : Nat} {k : Addr} {p q d : PD} {F : Fm} {look : Look} {hk : PD → Int}
theorem any_tup (X : Env0 (KK w) H) {wv sv : PD} {keep ik : Bool} {ds rs : List PD} (hlen : rs.length = ds.length) (hz : ds.length ≤ sizeLine) (hch : ∀ (i : Nat) x r, ds[i]? = some x → rs[i]? = some r → Any w H wv sv keep false (n + 1) x r) : Any w H wv sv keep ik (n + 2) (.tup ds) (if keep || ik then .tup rs else .list rs) := by
  refine any_begin X ?_
  refine EX.ifF (ET.val (d := .val (.bool false)) (EV.callF (EV.gk X) (.cons (EV.name rfl) .nil) .nil (KP.Kk X) (isAtomic X rfl rfl (by kernel_rfl))) (.bool _)) ?_
  refine EX.ifF (ET.hasNot X rfl rfl) ?_
  refine EX.ifT (ET.val (d := .val (.bool true)) (EV.callF (EV.bk X) (.cons (EV.name rfl) (.cons (EV.tup (ds := [.type "tuple", .type "list", .type "set", .type "frozenset"].map .val) (.cons (EV.bk X) (.cons (EV.bk X) (.cons (EV.bk X) (.cons (EV.bk X) .nil))))) .nil)) .nil KP.blt (FN.isiN X.toKOk rfl (by kernel_rfl))) (.bool _)) ?_
  refine EX.assignListI (rs := rs) (f := fun x l => match x with | .one d => upd l "i" d | _ => l) (IT.tup (EV.name rfl)) (by rw [List.length_map]; exact hz) (.of (by rfl)) (by rw [List.length_map]; exact hlen) (fun x hx => ?_) (fun x hx => ?_) (fun i x r hx hr => ?_) ?_
  · obtain ⟨d, _, rfl⟩ := List.mem_map.mp hx; exact TGI.one TG.name
  · obtain ⟨d, _, rfl⟩ := List.mem_map.mp hx; exact compLook_upd (by rfl)
  · rw [List.getElem?_map] at hx
    obtain ⟨d, hd, rfl⟩ := Option.map_eq_some_iff.mp hx
    refine EV.callF (EV.gk X) (.cons (EV.name rfl) .nil) (.cons EV.bool (.cons (EV.name rfl) (.cons (EV.name rfl) (.cons (EV.name rfl) (.cons (EV.name rfl) .nil))))) (KP.Kk X) (hch i d r hd hr)
  · have hz' : rs.length ≤ sizeLine := hlen ▸ hz
    cases keep with
    | true =>
      refine EX.ifT (ET.cmp (EV.name rfl) EV.bool CMP.is) (EX.assign (d1 := .tup rs) (EV.callF (EV.gk X) (.cons (EV.name rfl) (.cons (EV.name rfl) .nil)) .nil (KP.Kk X) (gathered_tup X hz')) (EX.nil (EX.nil (EX.nil (EX.nil ?_)))))
      exact EX.ret (EV.name rfl) rfl
    | false =>
      cases ik with
      | true =>
        refine EX.ifF (ET.cmp (EV.name rfl) EV.bool CMP.is) (EX.ifT (ET.val (EV.name rfl) (.bool _)) (EX.assign (d1 := .tup rs) (EV.callF (EV.bk X) (.cons (EV.name rfl) .nil) .nil KP.type (FN.tupleOf hz')) (EX.nil (EX.nil (EX.nil (EX.nil (EX.nil ?_)))))))
        exact EX.ret (EV.name rfl) rfl
      | false =>
        refine EX.ifF (ET.cmp (EV.name rfl) EV.bool CMP.is) (EX.ifF (ET.val (EV.name rfl) (.bool _)) (EX.assign (EV.name rfl) (EX.nil (EX.nil (EX.nil (EX.nil (EX.nil ?_)))))))
        exact EX.ret (EV.name rfl) rfl
theorem any_dict (X : Env1 w H) {wv sv : PD} {keep : Bool} {es out : List (PD × PD)} (hlen : out.length = es.length) (hz : es.length ≤ sizeLine) (hidx : ∀ (i : Nat) e, es[i]? = some e → (es.findIdx fun y => keyEq y.1 e.1) = i)
    (hkeys : ∀ (i : Nat) o, out[i]? = some o → KeyAt (out.take i) o.1 .none) (hch : ∀ (i : Nat) e o, es[i]? = some e → out[i]? = some o → Any w H wv sv keep true (n + 1) e.1 o.1 ∧ Any w H wv sv keep false (n + 1) e.2 o.2) : Any w H wv sv keep false (n + 6) (.dict es) (.dict out) := by
  obtain ⟨P, hP, hH⟩ := X.t477
  have X0 := X.toEnv0
  refine any_begin X0 ?_
  refine EX.ifF (ET.val (d := .val (.bool false)) (EV.callF (EV.gk X0) (.cons (EV.name rfl) .nil) .nil (KP.Kk X0) (isAtomic X0 rfl rfl (by kernel_rfl))) (.bool _)) ?_
  refine EX.ifF (ET.hasNot X0 rfl rfl) ?_
  refine EX.ifF (ET.val (d := .val (.bool false)) (EV.callF (EV.bk X0) (.cons (EV.name rfl) (.cons (EV.tup (ds := [.type "tuple", .type "list", .type "set", .type "frozenset"].map .val) (.cons (EV.bk X0) (.cons (EV.bk X0) (.cons (EV.bk X0) (.cons (EV.bk X0) .nil))))) .nil)) .nil KP.blt (FN.isiN X0.toKOk rfl (by kernel_rfl))) (.bool _)) ?_
  refine EX.ifT (ET.val (d := .val (.bool true)) (EV.callF (EV.bk X0) (.cons (EV.name rfl) (.cons (EV.bk X0) .nil)) .nil KP.blt (FN.isi1 X0.toKOk rfl (by kernel_rfl))) (.bool _)) ?_
  refine EX.assign (EV.name rfl) ?_
  refine EX.assign (d1 := .dict out) ?_ (EX.nil (EX.nil (EX.nil (EX.nil (EX.ret (EV.name rfl) rfl)))))
  refine Eq.mp (congrArg (fun z => EV prg w (hkW w) H (n + 5) _ _ _ (.dict z)) (kdOf_map hlen hidx)) ?_
  refine dictGen_ev (prog := prg) (w := w) (H := H) (n := n + 1) (F := anyF w) (kd := kdOf es out) (f := fun x l => match x with | .tup [a, b] => upds l ["kk", "vv"] [a, b] | _ => l) (items := es.map fun p => Item.tup [p.1, p.2]) (P := P) X0 (by omega) (EV.name rfl) (IT.items (EV.name rfl) hz) (by rw [List.length_map]; exact hz) (.of (by rfl)) (by rfl) (by rfl) (by rfl) hH hP (fun x hx => ?_) (fun x hx => ?_) (fun x hx => ?_) (fun i x hx => ?_)
  · obtain ⟨e, _, rfl⟩ := List.mem_map.mp hx
    exact TGI.tup (xs := [("kk", _), ("vv", _)]) rfl (by intro x hx; simp at hx; rcases hx with rfl | rfl <;> exact .inl rfl)
  · obtain ⟨e, _, rfl⟩ := List.mem_map.mp hx
    exact genLook_upds (by rfl) (by rfl)
  · obtain ⟨i, hi, hix⟩ := List.mem_iff_getElem.mp hx
    obtain ⟨e, o, he, ho, rfl, hkd⟩ := kdOf_at hlen hidx (List.getElem?_eq_some_iff.mpr ⟨hi, hix⟩)
    rw [hkd]
    obtain ⟨c1, c2⟩ := hch i e o he ho
    refine EV.tup (ds := [o.1, o.2]) (.cons ?_ (.cons ?_ .nil)) (sz rfl)
    · exact EV.callF (EV.gk X0) (.cons (EV.name rfl) .nil) (.cons EV.bool (.cons (EV.name rfl) (.cons (EV.name rfl) (.cons (EV.name rfl) (.cons (EV.name rfl) .nil))))) (KP.Kk X0) c1
    · exact EV.callF (EV.gk X0) (.cons (EV.name rfl) .nil) (.cons EV.bool (.cons (EV.name rfl) (.cons (EV.name rfl) (.cons (EV.name rfl) (.cons (EV.name rfl) .nil))))) (KP.Kk X0) c2
  · obtain ⟨e, o, he, ho, rfl, hkd⟩ := kdOf_at hlen hidx hx
    rw [List.map_take, kdOf_map hlen hidx, hkd]
    exact hkeys i o ho
end
end Mine
end

section -- C6
open PySem PySem.Calls PySem.W PyProof.Rows PySem.SeqAt PySem.MeetsSeq
set_option maxRecDepth 100000
set_option linter.unusedVariables false
namespace Mine
/-- the body of the first loop among statements -/
def forBody : List Stmt → List Stmt
  | .For _ _ b _ _ :: _ => b
  | _ :: r => forBody r
  | [] => []
noncomputable abbrev asdF (w : World) : Fm := ⟨(fdOf (KK w) 472).scope, some (codeOf (fdOf (KK w) 472)), .none⟩
noncomputable def asdBody (w : World) : List Stmt := forBody (bodyOf (fdOf (KK w) 472))
noncomputable def asdTail (w : World) : List Stmt := (asdBody w).drop 3
abbrev asdWc : List Str := ["wanted", "dict_factory", "retain_collection_types", "value_serializer", "df"]
/-- the filter -/
structure Wan (w : World) (H : Heap) (wv : PD) (wo : Str → Bool) : Prop where
  no : isNoneD wv = true → ∀ x, wo x = true
  is : isNoneD wv = false → KP prg w (hkW w) H wv ∧ ∀ n x d, FN prg w (hkW w) H (n + 1) wv [.attr x, d] [] (.val (.bool (wo x)))
section
variable {w : World} {H : Heap} {n : Nat} {k : Addr} {p q d : PD} {F : Fm} {look : Look} {hk : PD → Int}
theorem EV.subAny {value slice : Expr} {pos : Pos} {i r : PD} (h : EV prg w (hkW w) H n F look value d) (hi : EV prg w (hkW w) H n F look slice i) (g : GI prg w H n d i r)
    (hs : ∀ o v, subscripted slice false o v = operate [o, v] (getItem o v) := by intro _ _; rfl) : EV prg w (hkW w) H n F look (.Subscript value slice pos) r := fun A s L env ok p => by
  refine Subscript_ (h.use ok p fun o s₁ q₁ i₁ p₁ => hi.use ok p₁ fun v s₂ q₂ i₂ p₂ => ?_)
  obtain ⟨⟨T, id, hT, hl⟩, hg⟩ := g A s₂ _ o v ok p₂.inv p₂.led (i₁.mono fun _ _ => .inl) i₂
  refine kba_turn (value' := PySem.Expr.Name (PySem.Str.ofString "_") ⟨0, 0, 0, 0⟩) (fun _ => rfl) ?_
  exact subscriptTail_builtin hT hl (wpAny_mono hg (fun _ _ e => Post.step q₁ (Post.step q₂ e)) fun _ _ f => f.elim) (hs o v) (fun _ => rfl)
theorem ET.eq {e : Expr} {b b' : Bool} (h : ET prg w (hkW w) H n F look e b) (hb : b = b') : ET prg w (hkW w) H n F look e b' := hb ▸ h
/-- what the loop of asdict leans on -/
structure AsdL (l : Look) (k : Addr) (p q wv sv : PD) (keep rec : Bool) (D : Addr) : Prop where
  inst : l "inst" = some (.obj k p q)
  rv : l "rv" = some (.val (.ref D))
  wanted : l "wanted" = some wv
  df : l "dict_factory" = some (.val (.type "dict"))
  ret : l "retain_collection_types" = some (.val (.bool keep))
  ser : l "value_serializer" = some sv
  recur : l "recurse" = some (.val (.bool rec))
theorem AsdL.upd {l : Look} {wv sv : PD} {keep rec : Bool} {D : Addr} (h : AsdL l k p q wv sv keep rec D) {x : Str} {d0 : PD} (hx : x ∉ (["inst", "rv", "wanted", "dict_factory", "retain_collection_types", "value_serializer", "recurse"] : List Str)) : AsdL (upd l x d0) k p q wv sv keep rec D := by
  have ne : ∀ y ∈ (["inst", "rv", "wanted", "dict_factory", "retain_collection_types", "value_serializer", "recurse"] : List Str), Mine.upd l x d0 y = l y := fun y hy => by
    unfold Mine.upd
    exact if_neg (by intro e; subst e; exact hx hy)
  exact ⟨(ne _ (by simp)).trans h.inst, (ne _ (by simp)).trans h.rv, (ne _ (by simp)).trans h.wanted, (ne _ (by simp)).trans h.df, (ne _ (by simp)).trans h.ret, (ne _ (by simp)).trans h.ser, (ne _ (by simp)).trans h.recur⟩
theorem asd_prefix (X : Env0 (KK w) H) {l : Look} {wv sv dv : PD} {keep rec tn : Bool} {wo : Str → Bool} {D : Addr} {es : List (PD × PD)} {x : Str} {G : Goal} {i : Nat} (S : Ser w H sv tn) (Wn : Wan w H wv wo) (hl : AsdL l k p q wv sv keep rec D)
    (hv : KeyAt [(.str (Str.ofString "p"), p), (.str (Str.ofString "q"), q)] (.str x) (some i) ∧ ∃ k', ([(.str (Str.ofString "p"), p), (.str (Str.ofString "q"), q)] : List (PD × PD))[i]? = some (k', dv)) (ht : tn = true → ∃ t, tyS dv = some t)
    (hC : wo x = false → ∀ l', AsdL l' k p q wv sv keep rec D → G.C l' [(D, .dct es)])
    (hT : wo x = true → ∀ l', AsdL l' k p q wv sv keep rec D → l' "a" = some (.attr x) → l' "v" = some (keyT tn dv) → EX prg w (hkW w) H (n + 1) (asdF w) asdWc l' [(D, .dct es)] (asdTail w) G) :
    EX prg w (hkW w) H (n + 1) (asdF w) asdWc (upd l "a" (.attr x)) [(D, .dct es)] (asdBody w) G := by
  have h1 : AsdL (upd l "a" (.attr x)) k p q wv sv keep rec D := hl.upd (by decide)
  refine EX.assign (d1 := dv) (EV.subAny (EV.attr (EV.name h1.inst) (AT.objHeld X.toKOk (by kernel_rfl) (by kernel_rfl) (a := _) (by rfl) (by kernel_rfl))) (EV.attr (EV.name (d := .attr x) rfl) (AT.attrName X.toKOk (by kernel_rfl) (by kernel_rfl) (a := _) (by rfl) (by kernel_rfl))) (GI.dict (by omega) hv.1 hv.2.choose_spec)) ?_
  have h2 := h1.upd (x := "v") (d0 := dv) (by decide)
  have ha : (upd (upd l "a" (.attr x)) "v" dv) "a" = some (.attr x) := rfl
  have hv2 : (upd (upd l "a" (.attr x)) "v" dv) "v" = some dv := rfl
  have fin : wo x = true → EX prg w (hkW w) H (n + 1) (asdF w) asdWc (upd (upd l "a" (.attr x)) "v" dv) [(D, .dct es)] ((asdBody w).drop 2) G := fun hw => by
    cases tn with
    | false =>
      obtain rfl := S.no rfl
      refine EX.ifF (ET.cmp (EV.name h2.ser) EV.none (CMP.notNone' rfl)) (EX.nil ?_)
      exact hT hw _ h2 ha hv2
    | true =>
      obtain ⟨s1, s2, s3⟩ := S.is rfl
      obtain ⟨t, ht⟩ := ht rfl
      refine EX.ifT (ET.cmp (EV.name h2.ser) EV.none (CMP.notNone' (b := true) s1)) (EX.assign (d1 := turnD dv) (EV.callF (EV.name h2.ser) (.cons (EV.name h2.inst) (.cons (EV.name ha) (.cons (EV.name hv2) .nil))) .nil s2 (s3 n _ _ _ t ht)) (EX.nil ?_))
      exact hT hw _ (h2.upd (by decide)) rfl rfl
  cases hn : isNoneD wv with
  | true =>
    refine EX.ifF (ET.bool (EB.andF (ET.cmp (EV.name h2.wanted) EV.none (CMP.notNone' (b := false) hn)))) (EX.nil ?_)
    exact fin (Wn.no hn x)
  | false =>
    obtain ⟨k1, k2⟩ := Wn.is hn
    cases hw : wo x with
    | false =>
      refine EX.ifT (ET.bool (EB.andT (ET.cmp (EV.name h2.wanted) EV.none (CMP.notNone' (b := true) hn)) (EB.andT (ET.eq (ET.not (ET.val (EV.callF (EV.name h2.wanted) (.cons (EV.name ha) (.cons (EV.name hv2) .nil)) (.nil) k1 (k2 n x dv)) (.bool _))) (by rw [hw]; rfl)) EB.andNil))) (EX.cont ?_)
      exact hC hw _ h2
    | true =>
      refine EX.ifF (ET.bool (EB.andT (ET.cmp (EV.name h2.wanted) EV.none (CMP.notNone' (b := true) hn)) (EB.andF (ET.eq (ET.not (ET.val (EV.callF (EV.name h2.wanted) (.cons (EV.name ha) (.cons (EV.name hv2) .nil)) (.nil) k1 (k2 n x dv)) (.bool _))) (by rw [hw]; rfl))))) (EX.nil ?_)
      exact fin hw
end
end Mine
end

section -- C7
open PySem PySem.Calls PySem.W PyProof.Rows PySem.SeqAt PySem.MeetsSeq
set_option maxRecDepth 100000
set_option linter.unusedVariables false
namespace Mine
section
variable {w : World} {H : Heap} {n : Nat} {k : Addr} {p q d : PD} {F : Fm} {look : Look} {hk : PD → Int}
def asdKs (rec : Bool) (wv sv : PD) (keep : Bool) : List (Str × PD) := [("recurse", .val (.bool rec)), ("wanted", wv), ("dict_factory", .val (.type "dict")), ("retain_collection_types", .val (.bool keep)), ("value_serializer", sv)]
def Asd (w : World) (H : Heap) (wv sv : PD) (keep rec : Bool) (n : Nat) (d r : PD) : Prop := FN prg w (hkW w) H n (.val (.ref 472)) [d] (asdKs rec wv sv keep) r
/-- how a value is told in asdict -/
inductive Told (w : World) (H : Heap) (wv sv : PD) (keep : Bool) (n : Nat) : PD → PD → Prop
  | atom {d : PD} {t : Value} (ht : tyD d = some t) (h : FN prg w (hkW w) H (n + 1) (.val (.ref 452)) [d] [] (.val (.bool true))) : Told w H wv sv keep n d d
  | obj {k : Addr} {p q r : PD} (h : Asd w H wv sv keep true (n + 5) (.obj k p q) r) : Told w H wv sv keep n (.obj k p q) r
  | list {ds rs : List PD} (hlen : rs.length = ds.length) (hz : ds.length ≤ sizeLine) (hch : ∀ (i : Nat) x r, ds[i]? = some x → rs[i]? = some r → Any w H wv sv keep false (n + 1) x r) : Told w H wv sv keep n (.list ds) (.list rs)
  | tup {ds rs : List PD} (hlen : rs.length = ds.length) (hz : ds.length ≤ sizeLine) (hch : ∀ (i : Nat) x r, ds[i]? = some x → rs[i]? = some r → Any w H wv sv keep false (n + 1) x r) : Told w H wv sv keep n (.tup ds) (if keep then .tup rs else .list rs)
  | dict {es out : List (PD × PD)} (hlen : out.length = es.length) (hz : es.length ≤ sizeLine) (hidx : ∀ (i : Nat) e, es[i]? = some e → (es.findIdx fun y => keyEq y.1 e.1) = i)
    (hkeys : ∀ (i : Nat) o, out[i]? = some o → KeyAt (out.take i) o.1 .none) (hch : ∀ (i : Nat) e o, es[i]? = some e → out[i]? = some o → Any w H wv sv keep true (n + 1) e.1 o.1 ∧ Any w H wv sv keep false (n + 1) e.2 o.2) : Told w H wv sv keep n (.dict es) (.dict out)
theorem EV.attrNm (X : Env0 (KK w) H) {y x : Str} {p1 p2 : Pos} (h : look y = some (.attr x)) (hd : (y == ("__debug__" : Str)) = false := by decide) : EV prg w (hkW w) H n F look (.Attribute (.Name y p1) "name" p2) (.str x) :=
  EV.attr (EV.name h hd) (AT.attrName X.toKOk (by kernel_rfl) (by kernel_rfl) (a := _) (by rfl) (by kernel_rfl))
theorem asd_flat (X : Env1 w H) {l : Look} {wv sv d : PD} {keep : Bool} {D : Addr} {es : List (PD × PD)} {x : Str} {G : Goal} (hl : AsdL l k p q wv sv keep false D) (ha : l "a" = some (.attr x)) (hv : l "v" = some d)
    (hj : KeyAt es (.str x) .none) (hze : es.length ≤ sizeLine) (hN : G.N l [(D, .dct (es ++ [(.str x, d)]))]) : EX prg w (hkW w) H (n + 5) (asdF w) asdWc l [(D, .dct es)] (asdTail w) G := by
  have X0 := X.toEnv0
  refine EX.ifF (ET.cmp (EV.name hl.recur) EV.bool CMP.is) (EX.putItem (by omega) (EV.name hv) hl.rv (EV.attrNm X0 ha) hj hze (EX.nil (EX.nil ?_)))
  exact hN
theorem asd_list (X : Env1 w H) {l : Look} {wv sv : PD} {keep : Bool} {D : Addr} {es : List (PD × PD)} {x : Str} {G : Goal} (hl : AsdL l k p q wv sv keep true D) (ha : l "a" = some (.attr x)) {ds rs : List PD} (hv : l "v" = some (.list ds)) (hlen : rs.length = ds.length) (hz : ds.length ≤ sizeLine) (hch : ∀ (i : Nat) x r, ds[i]? = some x → rs[i]? = some r → Any w H wv sv keep false (n + 1) x r) (hj : KeyAt es (.str x) .none) (hze : es.length ≤ sizeLine) (hN : ∀ l', AsdL l' k p q wv sv keep true D → G.N l' [(D, .dct (es ++ [(.str x, .list rs)]))]) : EX prg w (hkW w) H (n + 5) (asdF w) asdWc l [(D, .dct es)] (asdTail w) G := by
  have X0 := X.toEnv0
  refine EX.ifT (ET.cmp (EV.name hl.recur) EV.bool CMP.is) ?_
  refine EX.ifF (ET.val (d := .val (.bool false)) (EV.callF (EV.gk X0) (.cons (EV.name hv) .nil) .nil (KP.Kk X0) (isAtomic X0 rfl rfl (by kernel_rfl))) (.bool _)) ?_
  refine EX.ifF (ET.hasNot X0 hv rfl) ?_
  refine EX.ifT (ET.val (d := .val (.bool true)) (EV.callF (EV.bk X0) (.cons (EV.name hv) (.cons (EV.tup (ds := [.type "tuple", .type "list", .type "set", .type "frozenset"].map .val) (.cons (EV.bk X0) (.cons (EV.bk X0) (.cons (EV.bk X0) (.cons (EV.bk X0) .nil))))) .nil)) .nil KP.blt (FN.isiN X0.toKOk rfl (by kernel_rfl))) (.bool _)) ?_
  refine EX.assignListI (rs := rs) (f := fun x l => match x with | .one d => upd l "i" d | _ => l) (IT.list (EV.name hv)) (by rw [List.length_map]; exact hz) (.of (by rfl)) (by rw [List.length_map]; exact hlen) (fun x hx => ?_) (fun x hx => ?_) (fun i x r hx hr => ?_) ?_
  · obtain ⟨d, _, rfl⟩ := List.mem_map.mp hx; exact TGI.one TG.name
  · obtain ⟨d, _, rfl⟩ := List.mem_map.mp hx; exact compLook_upd (by rfl)
  · rw [List.getElem?_map] at hx
    obtain ⟨d, hd, rfl⟩ := Option.map_eq_some_iff.mp hx
    exact EV.callF (EV.gk X0) (.cons (EV.name rfl) .nil) (.cons EV.bool (.cons (EV.name hl.wanted) (.cons (EV.name hl.df) (.cons (EV.name hl.ret) (.cons (EV.name hl.ser) .nil))))) (KP.Kk X0) ((hch i d r hd hr).le (by omega))
  · have hz' : rs.length ≤ sizeLine := hlen ▸ hz
    have hl2 : AsdL (upd l "items" (.list rs)) k p q wv sv keep true D := hl.upd (by decide)
    have ha2 : (upd l "items" (.list rs)) "a" = some (.attr x) := ha
    have hv2 : (upd l "items" (.list rs)) "v" = some (.list ds) := hv
    cases keep with
    | true =>
      refine EX.putItem (by omega) (EV.ifT (ET.cmp (EV.name hl2.ret) EV.bool CMP.is) (EV.callF (EV.gk X0) (.cons (EV.name rfl) (.cons (EV.name hv2) .nil)) .nil (KP.Kk X0) (gathered_list X0))) hl2.rv (EV.attrNm X0 ha2) hj hze (EX.nil (EX.nil (EX.nil (EX.nil (EX.nil ?_)))))
      exact hN _ hl2
    | false =>
      refine EX.putItem (by omega) (EV.ifF (ET.cmp (EV.name hl2.ret) EV.bool CMP.is) (EV.name rfl)) hl2.rv (EV.attrNm X0 ha2) hj hze (EX.nil (EX.nil (EX.nil (EX.nil (EX.nil ?_)))))
      exact hN _ hl2
theorem asd_tup (X : Env1 w H) {l : Look} {wv sv : PD} {keep : Bool} {D : Addr} {es : List (PD × PD)} {x : Str} {G : Goal} (hl : AsdL l k p q wv sv keep true D) (ha : l "a" = some (.attr x)) {ds rs : List PD} (hv : l "v" = some (.tup ds)) (hlen : rs.length = ds.length) (hz : ds.length ≤ sizeLine) (hch : ∀ (i : Nat) x r, ds[i]? = some x → rs[i]? = some r → Any w H wv sv keep false (n + 1) x r) (hj : KeyAt es (.str x) .none) (hze : es.length ≤ sizeLine) (hN : ∀ l', AsdL l' k p q wv sv keep true D → G.N l' [(D, .dct (es ++ [(.str x, if keep then .tup rs else .list rs)]))]) : EX prg w (hkW w) H (n + 5) (asdF w) asdWc l [(D, .dct es)] (asdTail w) G := by
  have X0 := X.toEnv0
  refine EX.ifT (ET.cmp (EV.name hl.recur) EV.bool CMP.is) ?_
  refine EX.ifF (ET.val (d := .val (.bool false)) (EV.callF (EV.gk X0) (.cons (EV.name hv) .nil) .nil (KP.Kk X0) (isAtomic X0 rfl rfl (by kernel_rfl))) (.bool _)) ?_
  refine EX.ifF (ET.hasNot X0 hv rfl) ?_
  refine EX.ifT (ET.val (d := .val (.bool true)) (EV.callF (EV.bk X0) (.cons (EV.name hv) (.cons (EV.tup (ds := [.type "tuple", .type "list", .type "set", .type "frozenset"].map .val) (.cons (EV.bk X0) (.cons (EV.bk X0) (.cons (EV.bk X0) (.cons (EV.bk X0) .nil))))) .nil)) .nil KP.blt (FN.isiN X0.toKOk rfl (by kernel_rfl))) (.bool _)) ?_
  refine EX.assignListI (rs := rs) (f := fun x l => match x with | .one d => upd l "i" d | _ => l) (IT.tup (EV.name hv)) (by rw [List.length_map]; exact hz) (.of (by rfl)) (by rw [List.length_map]; exact hlen) (fun x hx => ?_) (fun x hx => ?_) (fun i x r hx hr => ?_) ?_
  · obtain ⟨d, _, rfl⟩ := List.mem_map.mp hx; exact TGI.one TG.name
  · obtain ⟨d, _, rfl⟩ := List.mem_map.mp hx; exact compLook_upd (by rfl)
  · rw [List.getElem?_map] at hx
    obtain ⟨d, hd, rfl⟩ := Option.map_eq_some_iff.mp hx
    exact EV.callF (EV.gk X0) (.cons (EV.name rfl) .nil) (.cons EV.bool (.cons (EV.name hl.wanted) (.cons (EV.name hl.df) (.cons (EV.name hl.ret) (.cons (EV.name hl.ser) .nil))))) (KP.Kk X0) ((hch i d r hd hr).le (by omega))
  · have hz' : rs.length ≤ sizeLine := hlen ▸ hz
    have hl2 : AsdL (upd l "items" (.list rs)) k p q wv sv keep true D := hl.upd (by decide)
    have ha2 : (upd l "items" (.list rs)) "a" = some (.attr x) := ha
    have hv2 : (upd l "items" (.list rs)) "v" = some (.tup ds) := hv
    cases keep with
    | true =>
      refine EX.putItem (by omega) (EV.ifT (ET.cmp (EV.name hl2.ret) EV.bool CMP.is) (EV.callF (EV.gk X0) (.cons (EV.name rfl) (.cons (EV.name hv2) .nil)) .nil (KP.Kk X0) (gathered_tup X0 hz'))) hl2.rv (EV.attrNm X0 ha2) hj hze (EX.nil (EX.nil (EX.nil (EX.nil (EX.nil ?_)))))
      exact hN _ hl2
    | false =>
      refine EX.putItem (by omega) (EV.ifF (ET.cmp (EV.name hl2.ret) EV.bool CMP.is) (EV.name rfl)) hl2.rv (EV.attrNm X0 ha2) hj hze (EX.nil (EX.nil (EX.nil (EX.nil (EX.nil ?_)))))
      exact hN _ hl2
theorem asd_dict (X : Env1 w H) {l : Look} {wv sv : PD} {keep : Bool} {D : Addr} {es : List (PD × PD)} {x : Str} {G : Goal} (hl : AsdL l k p q wv sv keep true D) (ha : l "a" = some (.attr x)) {ds out : List (PD × PD)} (hv : l "v" = some (.dict ds)) (hlen : out.length = ds.length) (hz : ds.length ≤ sizeLine) (hidx : ∀ (i : Nat) e, ds[i]? = some e → (ds.findIdx fun y => keyEq y.1 e.1) = i) (hkeys : ∀ (i : Nat) o, out[i]? = some o → KeyAt (out.take i) o.1 .none) (hch : ∀ (i : Nat) e o, ds[i]? = some e → out[i]? = some o → Any w H wv sv keep true (n + 1) e.1 o.1 ∧ Any w H wv sv keep false (n + 1) e.2 o.2) (hj : KeyAt es (.str x) .none) (hze : es.length ≤ sizeLine) (hN : ∀ l', AsdL l' k p q wv sv keep true D → G.N l' [(D, .dct (es ++ [(.str x, .dict out)]))]) : EX prg w (hkW w) H (n + 5) (asdF w) asdWc l [(D, .dct es)] (asdTail w) G := by
  have X0 := X.toEnv0
  refine EX.ifT (ET.cmp (EV.name hl.recur) EV.bool CMP.is) ?_
  refine EX.ifF (ET.val (d := .val (.bool false)) (EV.callF (EV.gk X0) (.cons (EV.name hv) .nil) .nil (KP.Kk X0) (isAtomic X0 rfl rfl (by kernel_rfl))) (.bool _)) ?_
  refine EX.ifF (ET.hasNot X0 hv rfl) ?_
  refine EX.ifF (ET.val (d := .val (.bool false)) (EV.callF (EV.bk X0) (.cons (EV.name hv) (.cons (EV.tup (ds := [.type "tuple", .type "list", .type "set", .type "frozenset"].map .val) (.cons (EV.bk X0) (.cons (EV.bk X0) (.cons (EV.bk X0) (.cons (EV.bk X0) .nil))))) .nil)) .nil KP.blt (FN.isiN X0.toKOk rfl (by kernel_rfl))) (.bool _)) ?_
  refine EX.ifT (ET.val (d := .val (.bool true)) (EV.callF (EV.bk X0) (.cons (EV.name hv) (.cons (EV.bk X0) .nil)) .nil KP.blt (FN.isi1 X0.toKOk rfl (by kernel_rfl))) (.bool _)) ?_
  refine EX.assign (EV.name hl.df) ?_
  have hl2 : AsdL (upd l "df" (.val (.type "dict"))) k p q wv sv keep true D := hl.upd (by decide)
  have ha2 : (upd l "df" (.val (.type "dict"))) "a" = some (.attr x) := ha
  have hv2 : (upd l "df" (.val (.type "dict"))) "v" = some (.dict ds) := hv
  obtain ⟨P, hP, hH⟩ := X.t472
  refine EX.putItem (d := .dict out) (by omega) ?_ hl2.rv (EV.attrNm X0 ha2) hj hze (EX.nil (EX.nil (EX.nil (EX.nil (EX.nil (EX.nil ?_))))))
  · refine Eq.mp (congrArg (fun z => EV prg w (hkW w) H (n + 5) _ _ _ (.dict z)) (kdOf_map hlen hidx)) ?_
    refine dictGen_ev (prog := prg) (w := w) (H := H) (n := n + 1) (F := asdF w) (kd := kdOf ds out) (f := fun x l => match x with | .tup [a, b] => upds l ["kk", "vv"] [a, b] | _ => l) (items := ds.map fun p => Item.tup [p.1, p.2]) (P := P) X0 (by omega) (EV.name rfl) (IT.items (EV.name hv2) hz) (by rw [List.length_map]; exact hz) (.of (by rfl)) (by rfl) (by rfl) (by rfl) hH hP (fun x hx => ?_) (fun x hx => ?_) (fun x hx => ?_) (fun i x hx => ?_)
    · obtain ⟨e, _, rfl⟩ := List.mem_map.mp hx
      exact TGI.tup (xs := [("kk", _), ("vv", _)]) rfl (by intro x hx; simp at hx; rcases hx with rfl | rfl <;> exact .inl rfl)
    · obtain ⟨e, _, rfl⟩ := List.mem_map.mp hx
      exact genLook_upds (by rfl) (by rfl)
    · obtain ⟨i, hi, hix⟩ := List.mem_iff_getElem.mp hx
      obtain ⟨e, o, he, ho, rfl, hkd⟩ := kdOf_at hlen hidx (List.getElem?_eq_some_iff.mpr ⟨hi, hix⟩)
      rw [hkd]
      obtain ⟨c1, c2⟩ := hch i e o he ho
      refine EV.tup (ds := [o.1, o.2]) (.cons ?_ (.cons ?_ .nil)) (sz rfl)
      · exact EV.callF (EV.gk X0) (.cons (EV.name rfl) .nil) (.cons EV.bool (.cons (EV.name hl2.wanted) (.cons (EV.name rfl) (.cons (EV.name hl2.ret) (.cons (EV.name hl2.ser) .nil))))) (KP.Kk X0) c1
      · exact EV.callF (EV.gk X0) (.cons (EV.name rfl) .nil) (.cons EV.bool (.cons (EV.name hl2.wanted) (.cons (EV.name rfl) (.cons (EV.name hl2.ret) (.cons (EV.name hl2.ser) .nil))))) (KP.Kk X0) c2
    · obtain ⟨e, o, he, ho, rfl, hkd⟩ := kdOf_at hlen hidx hx
      rw [List.map_take, kdOf_map hlen hidx, hkd]
      exact hkeys i o ho
  · exact hN _ hl2
theorem asd_tail (X : Env1 w H) {l : Look} {wv sv d r : PD} {keep : Bool} {D : Addr} {es : List (PD × PD)} {x : Str} {G : Goal} (hl : AsdL l k p q wv sv keep true D) (ha : l "a" = some (.attr x)) (hv : l "v" = some d) (T : Told w H wv sv keep n d r)
    (hj : KeyAt es (.str x) .none) (hze : es.length ≤ sizeLine) (hN : ∀ l', AsdL l' k p q wv sv keep true D → G.N l' [(D, .dct (es ++ [(.str x, r)]))]) : EX prg w (hkW w) H (n + 5) (asdF w) asdWc l [(D, .dct es)] (asdTail w) G := by
  have X0 := X.toEnv0
  cases T with
  | atom ht h =>
    refine EX.ifT (ET.cmp (EV.name hl.recur) EV.bool CMP.is) ?_
    refine EX.ifT (ET.val (d := .val (.bool true)) (EV.callF (EV.gk X0) (.cons (EV.name hv) .nil) .nil (KP.Kk X0) (h.le (by omega))) (.bool _)) ?_
    refine EX.putItem (by omega) (EV.name hv) hl.rv (EV.attrNm X0 ha) hj hze (EX.nil (EX.nil (EX.nil ?_)))
    exact hN _ hl
  | obj h =>
    refine EX.ifT (ET.cmp (EV.name hl.recur) EV.bool CMP.is) ?_
    refine EX.ifF (ET.val (d := .val (.bool false)) (EV.callF (EV.gk X0) (.cons (EV.name hv) .nil) .nil (KP.Kk X0) (isAtomic X0 rfl rfl (by kernel_rfl))) (.bool _)) ?_
    refine EX.ifT (ET.hasObj X0 hv) ?_
    refine EX.putItem (by omega) (EV.callF (EV.gk X0) (.cons (EV.name hv) .nil) (.cons EV.bool (.cons (EV.name hl.wanted) (.cons (EV.name hl.df) (.cons (EV.name hl.ret) (.cons (EV.name hl.ser) .nil))))) (KP.Kk X0) h) hl.rv (EV.attrNm X0 ha) hj hze (EX.nil (EX.nil (EX.nil (EX.nil ?_))))
    exact hN _ hl
  | list hlen hz hch => exact asd_list X hl ha hv hlen hz hch hj hze hN
  | tup hlen hz hch => exact asd_tup X hl ha hv hlen hz hch hj hze hN
  | dict hlen hz hidx hkeys hch => exact asd_dict X hl ha hv hlen hz hidx hkeys hch hj hze hN
end
end Mine
end

section -- C8
open PySem PySem.Calls PySem.W PyProof.Rows PySem.SeqAt PySem.MeetsSeq
set_option maxRecDepth 100000
set_option linter.unusedVariables false
namespace Mine
section
variable {prog : Program} {w : World} {H : Heap} {n : Nat} {k : Addr} {p q d : PD} {F : Fm} {look : Look} {hk : PD → Int}
/-- what a look into K shows up to an alloc -/
theorem wp_peekA {α : Type} {K : Frag} {M : Model} {A : Around} {E : Value → Shared → Prop} {Q : α → Shared → Prop} {s : Shared} {o : Obj} (X : K.In s.heap) :
    ∀ (t : Sem α) (g : Addr → Sem α), peekA K ⟨M.prog, M.w.params⟩ t = some (o, g) → wpAny M A (g s.heap.objs.size) Q E { s with heap := s.heap.push o } → wpAny M A t Q E s := by
  intro t
  induction t with
  | rule _ k ih => intro g e q Γ p hΓ; exact ih () g e q Γ p hΓ
  | point _ k ih => intro g e q Γ p hΓ; exact ih () g e q Γ p hΓ
  | ask k ih => intro g e q Γ p hΓ; exact ih _ g e q Γ p hΓ
  | load a _ k ih =>
    intro g e q Γ p hΓ
    simp only [peekA] at e
    split at e
    · rename_i ob ho; exact ⟨ob, X _ _ ho, ih ob g e q Γ p hΓ⟩
    · cases e
  | alloc ob k _ =>
    intro g e q
    have e : some (ob, k) = some (o, g) := e
    obtain ⟨e1, e2⟩ := Prod.mk.inj (Option.some.inj e)
    subst e1
    subst e2
    show wpAny M A (alloc ob >>= k) Q E s
    exact wpAny_bind (wpAny_alloc q)
  | _ => intro g e; cases e
/-- defaults, and the names not its own gathered into an empty table -/
theorem BINDS.dflt0 {K : Frag} {fd : FuncData} {ps : List PD} {ks : List (Str × PD)} {names : List Str} {ds : List PD} {R : List Value → List Value → List Value}
    (X : KOk K H)
    (h1 : ∀ vs us : List Value, vs.length = ps.length → us.length = ks.length → peekA K ⟨prog, w.params⟩ (bindArgs fd ⟨vs, (ks.map (·.1)).zip us⟩) = some ({ cls := .type "dict", data := .dict #[] }, fun a => pure (names.zip (R vs us ++ [.ref a]))))
    (hR : ∀ L vs us, IsAll hk L vs ps → IsAll hk L us (ks.map (·.2)) → IsAll hk L (R vs us) ds) (hl : names.length = ds.length + 1) : BINDS prog w hk H fd ps ks names (ds ++ [.dict []]) := fun A s L vs kvs inv led i1 i2 i3 => by
  have e1 := i1.length
  have e2 := i2.length
  rw [List.length_map, List.length_map] at e2
  have e0 : ∀ l : List (Str × Value), (l.map (·.1)).zip (l.map (·.2)) = l := fun l => by
    induction l with
    | nil => rfl
    | cons p r ih => rw [List.map_cons, List.map_cons, List.zip_cons_cons, ih]
  have e3 : kvs = (ks.map (·.1)).zip (kvs.map (·.2)) := by rw [← i3, e0]
  have e4 := h1 vs (kvs.map (·.2)) e1 (by rw [List.length_map]; exact e2)
  rw [← e3] at e4
  have iR := hR L vs _ i1 i2
  have lR := iR.length
  refine wp_peekA (X.in inv) _ _ e4 (wpAny_pure ⟨.push inv _, ?_, ?_⟩)
  · rw [List.map_fst_zip]
    rw [List.length_append, lR, hl]; exact Nat.le_refl _
  · rw [List.map_snd_zip (by rw [List.length_append, lR, hl]; exact Nat.le_refl _)]
    refine (iR.mono fun _ _ => .inl).append (.cons (.dict (n := 0) (es := #[]) (.inr (Fresh.push rfl ⟨.inl (by simp), inv.new (inv.none (get_size _))⟩)) ⟨rfl, rfl, rfl⟩ rfl .nil) .nil)
/-- a name put into a table just made -/
theorem nsSet_push {A : Around} {s : Shared} {E : Value → Shared → Prop} {x : Str} {v : Value} {Q : Unit → Shared → Prop}
    (h : ∀ h', (∀ a o, s.heap.get? a = some o → h'.get? a = some o) → h'.get? s.heap.objs.size = some { cls := .type "dict", data := .dict #[⟨hashStr w x, .str x s.toks, v⟩] 1 } → Q () { s with heap := h', toks := s.toks + 1 }) :
    wpAny (model prog w) A (nsSet s.heap.objs.size x v) Q E { s with heap := s.heap.push { cls := .type "dict", data := .dict #[] } } := by
  have D : (s.heap.push { cls := .type "dict", data := .dict #[] }).get? s.heap.objs.size = some { cls := .type "dict", data := .dict #[] } := Heap.get?_push_size _ rfl
  have e : Obj.putName x (hashStr w x) (.str x s.toks) v { cls := .type "dict", data := .dict #[] } = { cls := .type "dict", data := .dict #[⟨hashStr w x, .str x s.toks, v⟩] 1 } := by
    have := putName_dict x (hashStr w x) (.str x s.toks) v [] 0
    exact this
  unfold nsSet
  refine wpAny_bind (wpAny_bind (wpAny_askSetting (wpAny_pure (wpAny_bind (wpAny_mkText (wpAny_bind (wpAny_loadPart D ?_)))))))
  refine wpAny_updatePart D (h _ (fun a o ea => ?_) ?_)
  · rw [Heap.get?_update_other _ _ (Nat.ne_of_gt (Heap.lt_size ea))]
    exact Heap.get?_push_of_some _ ea
  · rw [← e]
    exact Heap.get?_update_self _ D (by erw [e]; rfl)
/-- the same with one name gathered -/
theorem BINDS.dflt1 {K : Frag} {fd : FuncData} {ps : List PD} {ks : List (Str × PD)} {names : List Str} {ds : List PD} {R : List Value → List Value → List Value} {x : Str} {pu : List Value → Value} {d1 : PD}
    (X : KOk K H)
    (h1 : ∀ vs us : List Value, vs.length = ps.length → us.length = ks.length → peekA K ⟨prog, w.params⟩ (bindArgs fd ⟨vs, (ks.map (·.1)).zip us⟩) = some ({ cls := .type "dict", data := .dict #[] }, fun a => (forIn [(x, pu us)] PUnit.unit (fun x _ => (nsSet a x.1 x.2 >>= fun _ => pure (ForInStep.yield PUnit.unit)))) >>= fun _ => pure (names.zip (R vs us ++ [.ref a]))))
    (hR : ∀ L vs us, IsAll hk L vs ps → IsAll hk L us (ks.map (·.2)) → IsAll hk L (R vs us) ds ∧ Is hk L (pu us) d1) (hhk : hk (.str x) = hashStr w x) (hl : names.length = ds.length + 1) : BINDS prog w hk H fd ps ks names (ds ++ [.dict [(.str x, d1)]]) := fun A s L vs kvs inv led i1 i2 i3 => by
  have e1 := i1.length
  have e2 := i2.length
  rw [List.length_map, List.length_map] at e2
  have e0 : ∀ l : List (Str × Value), (l.map (·.1)).zip (l.map (·.2)) = l := fun l => by
    induction l with
    | nil => rfl
    | cons p r ih => rw [List.map_cons, List.map_cons, List.zip_cons_cons, ih]
  have e3 : kvs = (ks.map (·.1)).zip (kvs.map (·.2)) := by rw [← i3, e0]
  have e4 := h1 vs (kvs.map (·.2)) e1 (by rw [List.length_map]; exact e2)
  rw [← e3] at e4
  obtain ⟨iR, iu⟩ := hR L vs _ i1 i2
  have lR := iR.length
  refine wp_peekA (X.in inv) _ _ e4 (wpAny_bind ?_)
  rw [List.forIn_cons]
  refine wpAny_bind (wpAny_bind (nsSet_push fun h' hk' hn => wpAny_pure ?_))
  refine wpAny_pure (wpAny_pure ⟨.all inv hk', ?_, ?_⟩)
  · rw [List.map_fst_zip]
    rw [List.length_append, lR, hl]; exact Nat.le_refl _
  · rw [List.map_snd_zip (by rw [List.length_append, lR, hl]; exact Nat.le_refl _)]
    refine (iR.mono fun _ _ => .inl).append (.cons (.dict (n := 1) (es := #[_]) (.inr ⟨get_size _, hn, ⟨.inl (by simp), inv.new (inv.none (get_size _))⟩⟩) ⟨rfl, rfl, rfl⟩ rfl (.cons hhk.symm (.str _ _) (iu.mono fun _ _ => .inl) .nil)) .nil)
end
end Mine
end

section -- C9
open PySem PySem.Calls PySem.W PyProof.Rows PySem.SeqAt PySem.MeetsSeq
set_option maxRecDepth 100000
set_option linter.unusedVariables false
namespace Mine
section
variable {w : World} {H : Heap} {n : Nat} {k : Addr} {p q d : PD} {F : Fm} {look : Look} {hk : PD → Int}
def asdNames : List Str := ["inst", "recurse", "wanted", "dict_factory", "retain_collection_types", "value_serializer", "named"]
theorem asd_binds5 (X : Env0 (KK w) H) {wv sv d : PD} {keep rec : Bool} : BINDS prg w hk H (fdOf (KK w) 472) [d] (asdKs rec wv sv keep) asdNames [d, .val (.bool rec), wv, .val (.type "dict"), .val (.bool keep), sv, .dict []] := by
  refine BINDS.dflt0 (ds := [d, .val (.bool rec), wv, .val (.type "dict"), .val (.bool keep), sv]) (R := fun vs us => vs ++ us) X.toKOk (fun vs us h1 h2 => ?_) (fun L vs us i1 i2 => i1.append i2) rfl
  match vs, h1, us, h2 with
  | [a], _, [b, c, e, f, g], _ => kernel_rfl
def topKs (keep : Bool) (fv sv : PD) : List (Str × PD) := [("filter", fv), ("retain_collection_types", .val (.bool keep)), ("value_serializer", sv)]
/-- asdict(one, filter=.., retain_collection_types=.., value_serializer=..) -/
theorem asd_bindsF (X : Env0 (KK w) H) {fv sv d : PD} {keep : Bool} : BINDS prg w (hkW w) H (fdOf (KK w) 472) [d] (topKs keep fv sv) asdNames [d, .val (.bool true), .val .none, .val (.type "dict"), .val (.bool keep), sv, .dict [(.str "filter", fv)]] := by
  refine BINDS.dflt1 (x := "filter") (d1 := fv) (pu := fun us => us.headD .none) (ds := [d, .val (.bool true), .val .none, .val (.type "dict"), .val (.bool keep), sv]) (R := fun vs us => [vs.headD .none, .bool true, .none, .type "dict", us.getD 1 .none, us.getD 2 .none]) X.toKOk (fun vs us h1 h2 => ?_) (fun L vs us i1 i2 => ?_) rfl rfl
  · match vs, h1, us, h2 with
    | [a], _, [b, c, e], _ => kernel_rfl
  · cases i1 with
    | cons j1 j2 => cases i2 with
      | cons k1 k2 => cases k2 with
        | cons k2 k3 => cases k3 with
          | cons k3 k4 => exact ⟨.cons j1 (.cons (.val _) (.cons (.val _) (.cons (.val _) (.cons k2 (.cons k3 .nil))))), k1⟩
theorem asd_binds0 (X : Env0 (KK w) H) {d : PD} : BINDS prg w hk H (fdOf (KK w) 472) [d] [] asdNames [d, .val (.bool true), .val .none, .val (.type "dict"), .val (.bool false), .val .none, .dict []] := by
  refine BINDS.dflt0 (ds := [d, .val (.bool true), .val .none, .val (.type "dict"), .val (.bool false), .val .none]) (R := fun vs us => [vs.headD .none, .bool true, .none, .type "dict", .bool false, .none]) X.toKOk (fun vs us h1 h2 => ?_) (fun L vs us i1 i2 => ?_) rfl
  · match vs, h1, us, h2 with
    | [a], _, [], _ => kernel_rfl
  · cases i1 with
    | cons j1 j2 => exact .cons j1 (.cons (.val _) (.cons (.val _) (.cons (.val _) (.cons (.val _) (.cons (.val _) .nil)))))
theorem asd_bindsR (X : Env0 (KK w) H) {d : PD} {rec : Bool} : BINDS prg w hk H (fdOf (KK w) 472) [d] [("recurse", .val (.bool rec))] asdNames [d, .val (.bool rec), .val .none, .val (.type "dict"), .val (.bool false), .val .none, .dict []] := by
  refine BINDS.dflt0 (ds := [d, .val (.bool rec), .val .none, .val (.type "dict"), .val (.bool false), .val .none]) (R := fun vs us => [vs.headD .none, us.headD .none, .none, .type "dict", .bool false, .none]) X.toKOk (fun vs us h1 h2 => ?_) (fun L vs us i1 i2 => ?_) rfl
  · match vs, h1, us, h2 with
    | [a], _, [b], _ => kernel_rfl
  · cases i1 with
    | cons j1 j2 => cases i2 with
      | cons k1 k2 => exact .cons j1 (.cons k1 (.cons (.val _) (.cons (.val _) (.cons (.val _) (.cons (.val _) .nil)))))
end
end Mine
end

section -- C10
open PySem PySem.Calls PySem.W PyProof.Rows PySem.SeqAt PySem.MeetsSeq
set_option maxRecDepth 100000
set_option linter.unusedVariables false
namespace Mine
section
variable {w : World} {H : Heap} {n : Nat} {k : Addr} {p q d : PD} {F : Fm} {look : Look} {hk : PD → Int}
/-- what the table holds after the attributes -/
def rowOf (wo : Str → Bool) (rp rq : PD) : List (PD × PD) := (if wo "p" then [(.str "p", rp)] else []) ++ (if wo "q" then [(.str "q", rq)] else [])
theorem asd_turn (X : Env1 w H) {l : Look} {wv sv dv r : PD} {keep rec tn : Bool} {wo : Str → Bool} {D : Addr} {es : List (PD × PD)} {x : Str} {G : Goal} {i : Nat} (S : Ser w H sv tn) (Wn : Wan w H wv wo) (hl : AsdL l k p q wv sv keep rec D)
    (hv : KeyAt [(.str (Str.ofString "p"), p), (.str (Str.ofString "q"), q)] (.str x) (some i) ∧ ∃ k', ([(.str (Str.ofString "p"), p), (.str (Str.ofString "q"), q)] : List (PD × PD))[i]? = some (k', dv)) (ht : tn = true → ∃ t, tyS dv = some t)
    (T : wo x = true → if rec then Told w H wv sv keep n (keyT tn dv) r else r = keyT tn dv) (hj : KeyAt es (.str x) .none) (hze : es.length ≤ sizeLine)
    (hN : ∀ l', AsdL l' k p q wv sv keep rec D → G.N l' [(D, .dct (es ++ if wo x then [(.str x, r)] else []))] ∧ G.C l' [(D, .dct (es ++ if wo x then [(.str x, r)] else []))]) :
    EX prg w (hkW w) H (n + 5) (asdF w) asdWc (upd l "a" (.attr x)) [(D, .dct es)] (asdBody w) G := by
  have X0 := X.toEnv0
  refine asd_prefix (n := n + 4) X0 S Wn hl hv ht (fun hw l' h' => ?_) (fun hw l' h' ha hv' => ?_)
  · have := (hN l' h').2
    rw [hw] at this
    simpa using this
  · have T := T hw
    rw [hw] at hN
    cases rec with
    | false =>
      obtain rfl := T
      exact asd_flat X h' ha hv' hj hze (hN l' h').1
    | true => exact asd_tail X h' ha hv' T hj hze fun l'' h'' => (hN l'' h'').1
/-- asdict's body from the third statement on, of an object whose values are told -/
theorem asd_body (X : Env1 w H) {wv wv' sv nd rp rq : PD} {keep rec tn : Bool} {wo : Str → Bool} (S : Ser w H sv tn) (Wn : Wan w H wv wo) (hw : FN prg w (hkW w) H (n + 5) (.val (.ref 466)) [wv', nd] [] wv)
    (hp : tn = true → ∃ t, tyS p = some t) (hq : tn = true → ∃ t, tyS q = some t) (Tp : wo "p" = true → if rec then Told w H wv sv keep n (keyT tn p) rp else rp = keyT tn p) (Tq : wo "q" = true → if rec then Told w H wv sv keep n (keyT tn q) rq else rq = keyT tn q) :
    EX prg w (hkW w) H (n + 5) (asdF w) asdWc (fun z => (asdNames.zip [.obj k p q, .val (.bool rec), wv', .val (.type "dict"), .val (.bool keep), sv, nd]).lookup z) [] (bodyOf (fdOf (KK w) 472)) (Rets (.dict (rowOf wo rp rq))) := by
  have X0 := X.toEnv0
  refine EX.assign (d1 := .tup [.attr "p", .attr "q"]) (EV.callF (EV.gk X0) (.cons (EV.name rfl) .nil) .nil (KP.Kk X0) (fields_obj X0)) ?_
  refine EX.newOwn (EN.dict0 (EV.name rfl)) fun D => ?_
  refine EX.assign (d1 := wv) (EV.callF (EV.gk X0) (.cons (EV.name rfl) (.cons (EV.name rfl) .nil)) .nil (KP.Kk X0) hw) ?_
  refine .step (EX1.for (t := .Name "a" _) (items := [.one (.attr "p"), .one (.attr "q")]) (f := fun x l => match x with | .one d => upd l "a" d | _ => l)
    (fun i l o => AsdL l k p q wv sv keep rec D ∧ o = [(D, .dct (rowOf (fun x => wo x && (i == 2 || (i == 1 && x == "p"))) rp rq))]) (IT.tup (ds := [.attr "p", .attr "q"]) (EV.name rfl)) ?_ ?_ (fun x hx => ?_) (fun i x l o hx hJ => ?_) ?_)
  · refine ⟨⟨rfl, rfl, rfl, rfl, rfl, rfl, rfl⟩, ?_⟩
    simp [rowOf]
  · rintro i l o ⟨_, rfl⟩; rfl
  · rcases List.mem_cons.mp hx with rfl | hx
    · exact TGI.one TG.name
    · obtain rfl := List.mem_singleton.mp hx; exact TGI.one TG.name
  · obtain ⟨hl, rfl⟩ := hJ
    have npq : ¬ Str.ofString "q" = Str.ofString "p" := by decide
    match i, hx with
    | 0, hx =>
      obtain rfl := Option.some.inj hx
      refine asd_turn X S Wn hl (dv := p) (i := 0) ⟨.of rfl, _, rfl⟩ hp Tp (by simpa [rowOf] using KeyAt.of (by rfl)) (by simp [rowOf]) fun l' h' => ?_
      cases hw : wo "p" <;> simp [rowOf, hw, h', npq]
    | 1, hx =>
      obtain rfl := Option.some.inj hx
      refine asd_turn X S Wn hl (dv := q) (i := 1) ⟨.of rfl, _, rfl⟩ hq Tq ?_ ?_ fun l' h' => ?_
      · cases hw : wo "p" <;> simp [rowOf, hw, npq] <;> exact KeyAt.of (by rfl)
      · cases hw : wo "p" <;> simp [rowOf, hw, npq] <;> exact sz (by rfl)
      · cases hw : wo "p" <;> cases hw' : wo "q" <;> simp [rowOf, hw, hw', h', npq]
  · rintro l o ⟨hl, rfl⟩
    refine EX.freeze hl.rv ?_
    refine EX.ret (d := .dict (rowOf wo rp rq)) (EV.name ?_) rfl
    simp [upd, rowOf, OwnO.frozen]
end
end Mine
end

section -- C11
open PySem PySem.Calls PySem.W PyProof.Rows PySem.SeqAt PySem.MeetsSeq
set_option maxRecDepth 100000
set_option linter.unusedVariables false
namespace Mine
section
variable {w : World} {H : Heap} {n : Nat} {k : Addr} {p q d : PD} {F : Fm} {look : Look} {hk : PD → Int}
theorem asd_obj (X : Env1 w H) {wv sv rp rq : PD} {keep rec tn : Bool} {wo : Str → Bool} (S : Ser w H sv tn) (Wn : Wan w H wv wo)
    (hp : tn = true → ∃ t, tyS p = some t) (hq : tn = true → ∃ t, tyS q = some t) (Tp : wo "p" = true → if rec then Told w H wv sv keep n (keyT tn p) rp else rp = keyT tn p) (Tq : wo "q" = true → if rec then Told w H wv sv keep n (keyT tn q) rq else rq = keyT tn q) : Asd w H wv sv keep rec (n + 6) (.obj k p q) (.dict (rowOf wo rp rq)) :=
  FN.defK (names := asdNames) asdWc X.toEnv0 rfl (asd_binds5 X.toEnv0) (by decide) rfl (asd_body X S Wn (FN.le (wanted_none X.toEnv0) (Nat.le_add_left 2 (n + 3))) hp hq Tp Tq)
theorem asd_objF (X : Env1 w H) {wv sv rp rq : PD} {keep tn : Bool} {wo : Str → Bool} (S : Ser w H sv tn) (Wn : Wan w H wv wo)
    (hp : tn = true → ∃ t, tyS p = some t) (hq : tn = true → ∃ t, tyS q = some t) (Tp : wo "p" = true → Told w H wv sv keep n (keyT tn p) rp) (Tq : wo "q" = true → Told w H wv sv keep n (keyT tn q) rq) : FN prg w (hkW w) H (n + 6) (.val (.ref 472)) [.obj k p q] (topKs keep wv sv) (.dict (rowOf wo rp rq)) :=
  FN.defK (names := asdNames) asdWc X.toEnv0 rfl (asd_bindsF X.toEnv0) (by decide) rfl (asd_body X S Wn (FN.le (wanted_some X.toEnv0) (Nat.le_add_left 2 (n + 3))) hp hq (fun h => Tp h) (fun h => Tq h))
theorem any_obj (X : Env0 (KK w) H) {wv sv r : PD} {keep : Bool} {ik : Bool} (h : Asd w H wv sv keep true (n + 2) (.obj k p q) r) : Any w H wv sv keep ik (n + 3) (.obj k p q) r := by
  refine any_begin X ?_
  refine EX.ifF (ET.val (d := .val (.bool false)) (EV.callF (EV.gk X) (.cons (EV.name rfl) .nil) .nil (KP.Kk X) (isAtomic X rfl rfl (by kernel_rfl))) (.bool _)) ?_
  refine EX.ifT (ET.hasObj X rfl) ?_
  refine EX.assign (d1 := r) (EV.callF (EV.gk X) (.cons (EV.name rfl) .nil) (.cons EV.bool (.cons (EV.name rfl) (.cons (EV.name rfl) (.cons (EV.name rfl) (.cons (EV.name rfl) .nil))))) (KP.Kk X) h) (EX.nil (EX.nil ?_))
  exact EX.ret (EV.name rfl) rfl
end
end Mine
end

section -- C12
open PySem PySem.Calls PySem.W PyProof.Rows PySem.SeqAt PySem.MeetsSeq
set_option maxRecDepth 100000
set_option linter.unusedVariables false
namespace Mine
def K3 : List PD := [.str "k", xyKey, .int 7]
theorem ks_cases {P : List PD → List PD → Prop} (h0 : P [] []) (h1 : ∀ k ∈ K3, ∀ a, P [k] [a]) (h2 : ∀ k ∈ K3, ∀ a b, P [k, .str "z"] [a, b]) : ∀ ks ∈ KS, ∀ A : List PD, ks.length = A.length → P ks A := by
  intro ks h A hl
  have one : ∀ k ∈ K3, ∀ A : List PD, 1 = A.length → P [k] A := fun k hk A e => by
    match A, e with
    | [a], _ => exact h1 k hk a
  have two : ∀ k ∈ K3, ∀ A : List PD, 2 = A.length → P [k, .str "z"] A := fun k hk A e => by
    match A, e with
    | [a, b], _ => exact h2 k hk a b
  simp only [KS, List.mem_cons, List.not_mem_nil, or_false] at h
  rcases h with rfl | rfl | rfl | rfl | rfl | rfl | rfl
  · match A, hl with
    | [], _ => exact h0
  · exact one _ (by simp [K3]) A hl
  · exact one _ (by simp [K3]) A hl
  · exact one _ (by simp [K3]) A hl
  · exact two _ (by simp [K3]) A hl
  · exact two _ (by simp [K3]) A hl
  · exact two _ (by simp [K3]) A hl
theorem ks_idx : ∀ ks ∈ KS, ∀ A : List PD, ks.length = A.length → ∀ (i : Nat) e, (ks.zip A)[i]? = some e → ((ks.zip A).findIdx fun y => keyEq y.1 e.1) = i := by
  refine ks_cases (by intro i e h; simp at h) (fun k hk a i e h => ?_) (fun k hk a b i e h => ?_)
  · match i, h with
    | 0, h =>
      obtain rfl := Option.some.inj h
      simp only [K3, List.mem_cons, List.not_mem_nil, or_false] at hk
      rcases hk with rfl | rfl | rfl <;> rfl
  · match i, h with
    | 0, h =>
      obtain rfl := Option.some.inj h
      simp only [K3, List.mem_cons, List.not_mem_nil, or_false] at hk
      rcases hk with rfl | rfl | rfl <;> rfl
    | 1, h =>
      obtain rfl := Option.some.inj h
      simp only [K3, List.mem_cons, List.not_mem_nil, or_false] at hk
      rcases hk with rfl | rfl | rfl <;> rfl
theorem ks_keys (tn : Bool) : ∀ ks ∈ KS, ∀ A : List PD, ks.length = A.length → ∀ (i : Nat) o, ((ks.map (keyT tn)).zip A)[i]? = some o → KeyAt (((ks.map (keyT tn)).zip A).take i) o.1 .none := by
  refine ks_cases (by intro i e h; simp at h) (fun k hk a i e h => ?_) (fun k hk a b i e h => ?_)
  · match i, h with
    | 0, h =>
      obtain rfl := Option.some.inj h
      simp only [K3, List.mem_cons, List.not_mem_nil, or_false] at hk
      cases tn <;> rcases hk with rfl | rfl | rfl <;> exact KeyAt.of (by rfl)
  · match i, h with
    | 0, h =>
      obtain rfl := Option.some.inj h
      simp only [K3, List.mem_cons, List.not_mem_nil, or_false] at hk
      cases tn <;> rcases hk with rfl | rfl | rfl <;> exact KeyAt.of (by rfl)
    | 1, h =>
      obtain rfl := Option.some.inj h
      simp only [K3, List.mem_cons, List.not_mem_nil, or_false] at hk
      cases tn <;> rcases hk with rfl | rfl | rfl <;> exact KeyAt.of (by rfl)
theorem K3_mem : ∀ ks ∈ KS, ∀ k ∈ ks, k ∈ K3 ∨ k = .str "z" := by
  intro ks h k hk
  simp only [KS, List.mem_cons, List.not_mem_nil, or_false] at h
  have two : ∀ a b : PD, (k = a ∨ k = b) → b = .str "z" → a ∈ K3 → k ∈ K3 ∨ k = .str "z" := fun a b e e2 h3 => e.elim (fun e => .inl (e ▸ h3)) fun e => .inr (e.trans e2)
  rcases h with rfl | rfl | rfl | rfl | rfl | rfl | rfl <;> simp only [List.mem_cons, List.not_mem_nil, or_false] at hk
  · subst hk; exact .inl (by simp [K3])
  · subst hk; exact .inl (by simp [K3])
  · subst hk; exact .inl (by simp [K3])
  · exact two _ _ hk rfl (by simp [K3])
  · exact two _ _ hk rfl (by simp [K3])
  · exact two _ _ hk rfl (by simp [K3])
theorem ty_laid (k : Addr) : ∀ t, ∃ v, tyS (laid k t) = some v
  | .n i => ⟨_, by rw [laid]; rfl⟩
  | .t x => ⟨_, by rw [laid]; rfl⟩
  | .z => ⟨_, by rw [laid]; rfl⟩
  | .l ts => ⟨_, by rw [laid]; rfl⟩
  | .u ts => ⟨_, by rw [laid]; rfl⟩
  | .o a b => ⟨_, by rw [laid]; rfl⟩
  | .d ks ts => ⟨_, by rw [laid]; rfl⟩
section
variable {w : World} {H : Heap} {n : Nat} {k : Addr} {p q d : PD} {F : Fm} {look : Look} {hk : PD → Int} {wv sv : PD} {keep tn : Bool} {wo : Str → Bool}
theorem any_int (X : Env1 w H) (S : Ser w H sv tn) {i : Int} {ik : Bool} : Any w H wv sv keep ik (n + 2) (.int i) (keyT tn (.int i)) := any_atom X.toEnv0 S rfl (isAtomic X.toEnv0 rfl rfl (by kernel_rfl))
theorem any_str (X : Env1 w H) (S : Ser w H sv tn) {x : Str} {ik : Bool} : Any w H wv sv keep ik (n + 2) (.str x) (.str x) := by
  have := any_atom (n := n) (wv := wv) (keep := keep) (ik := ik) X.toEnv0 S (d := .str x) rfl (isAtomic X.toEnv0 rfl rfl (by kernel_rfl))
  cases tn <;> exact this
theorem any_none (X : Env1 w H) (S : Ser w H sv tn) {ik : Bool} : Any w H wv sv keep ik (n + 2) (.val .none) (.val .none) := by
  have := any_atom (n := n) (wv := wv) (keep := keep) (ik := ik) X.toEnv0 S (d := .val .none) rfl (isAtomic_none X.toEnv0)
  cases tn <;> exact this
theorem any_key (X : Env1 w H) (S : Ser w H sv tn) {kk : PD} (h : kk ∈ K3 ∨ kk = .str "z") : Any w H wv sv keep true (n + 4) kk (keyT tn kk) := by
  have keyS : ∀ x : Str, keyT tn (.str x) = .str x := fun x => by cases tn <;> rfl
  simp only [K3, List.mem_cons, List.not_mem_nil, or_false] at h
  rcases h with (rfl | rfl | rfl) | rfl
  · rw [keyS]; exact (any_str (n := n + 2) X S)
  · have e : keyT tn xyKey = (if keep || true then .tup [.str "x", .str "y"] else .list [.str "x", .str "y"]) := by
      cases tn <;> cases keep <;> rfl
    rw [e]
    refine any_tup (n := n + 2) X.toEnv0 (ds := [.str "x", .str "y"]) rfl (sz rfl) fun i x r hx hr => ?_
    match i, hx, hr with
    | 0, hx, hr => obtain rfl := Option.some.inj hx; obtain rfl := Option.some.inj hr; exact (any_str (n := n + 1) X S)
    | 1, hx, hr => obtain rfl := Option.some.inj hx; obtain rfl := Option.some.inj hr; exact (any_str (n := n + 1) X S)
  · exact any_int (n := n + 2) X S
  · rw [keyS]; exact (any_str (n := n + 2) X S)
/-- what is known of all drawings up to a height -/
def AnyTo (w : World) (H : Heap) (wv sv : PD) (keep tn : Bool) (wo : Str → Bool) (k : Addr) (m : Nat) : Prop :=
  ∀ t, ht t ≤ m → WT t → Any w H wv sv keep false (10 * m + 10) (laid k t) (tell keep wo tn t)
theorem zip_at {A B : List PD} {i : Nat} {e : PD × PD} (h : (A.zip B)[i]? = some e) : A[i]? = some e.1 ∧ B[i]? = some e.2 := by
  have := List.getElem?_zip_eq_some.mp h
  exact this
theorem told_of (X : Env1 w H) (S : Ser w H sv tn) {m : Nat} (IH : AnyTo w H wv sv keep tn wo k m) (IHo : ∀ a b, ht (.o a b) ≤ m → WT (.o a b) → Asd w H wv sv keep true (10 * m + 9) (laid k (.o a b)) (tell keep wo tn (.o a b))) :
    ∀ t, ht t ≤ m → WT t → Told w H wv sv keep (10 * m + 9) (keyT tn (laid k t)) (tell keep wo tn t) := by
  have X0 := X.toEnv0
  have kid : ∀ ts : List T, htL ts + 1 ≤ m → WTL ts → ∀ (i : Nat) x r, (laidL k ts)[i]? = some x → (tellL keep wo tn ts)[i]? = some r → Any w H wv sv keep false (10 * m + 9 + 1) x r := fun ts h1 h2 i x r hx hr => by
    rw [laidL_map, List.getElem?_map] at hx
    rw [tellL_map, List.getElem?_map] at hr
    obtain ⟨t, ht', rfl⟩ := Option.map_eq_some_iff.mp hx
    rw [ht'] at hr
    obtain rfl := Option.some.inj hr
    have hm := List.mem_of_getElem? ht'
    exact IH t (by have := htL_mem t hm; omega) (WTL_mem h2 t hm)
  intro t hh hw
  match t, hh, hw with
  | .n i, hh, hw =>
    have e : tell keep wo tn (.n i) = keyT tn (.int i) := by rw [tell]
    rw [e, laid]
    cases tn <;> exact .atom rfl (isAtomic X0 rfl rfl (by kernel_rfl))
  | .t x, hh, hw =>
    rw [tell, laid]
    cases tn <;> exact .atom rfl (isAtomic X0 rfl rfl (by kernel_rfl))
  | .z, hh, hw =>
    rw [tell, laid]
    cases tn <;> exact .atom rfl (isAtomic_none X0)
  | .l ts, hh, hw =>
    have e : keyT tn (laid k (.l ts)) = .list (laidL k ts) := by rw [laid]; cases tn <;> rfl
    rw [e, tell]
    rw [ht] at hh
    rw [WT] at hw
    exact .list (by rw [laidL_map, tellL_map, List.length_map, List.length_map]) (by rw [laidL_map, List.length_map]; exact Nat.le_trans hw.2 (sz rfl)) (kid ts hh hw.1)
  | .u ts, hh, hw =>
    have e : keyT tn (laid k (.u ts)) = .tup (laidL k ts) := by rw [laid]; cases tn <;> rfl
    rw [e, tell]
    rw [ht] at hh
    rw [WT] at hw
    exact .tup (by rw [laidL_map, tellL_map, List.length_map, List.length_map]) (by rw [laidL_map, List.length_map]; exact Nat.le_trans hw.2 (sz rfl)) (kid ts hh hw.1)
  | .o a b, hh, hw =>
    have e : keyT tn (laid k (.o a b)) = laid k (.o a b) := by rw [laid]; cases tn <;> rfl
    rw [e]
    have := IHo a b hh hw
    rw [laid] at this ⊢
    exact .obj (FN.le this (by omega))
  | .d ks ts, hh, hw =>
    have e : keyT tn (laid k (.d ks ts)) = .dict (ks.zip (laidL k ts)) := by rw [laid]; cases tn <;> rfl
    rw [e, tell]
    rw [ht] at hh
    rw [WT] at hw
    obtain ⟨w1, w2, w3⟩ := hw
    have la : ks.length = (laidL k ts).length := by rw [laidL_map, List.length_map]; exact w2
    have lb : ks.length = (tellL keep wo tn ts).length := by rw [tellL_map, List.length_map]; exact w2
    have lk : ks.length ≤ 2 := ks_cases (P := fun ks _ => ks.length ≤ 2) (Nat.zero_le _) (fun _ _ _ => by simp) (fun _ _ _ _ => by simp) ks w3 _ la
    refine .dict ?_ ?_ (ks_idx ks w3 _ la) (ks_keys tn ks w3 _ lb) fun i e o he ho => ?_
    · rw [List.length_zip, List.length_zip, List.length_map, ← la, ← lb]
    · rw [List.length_zip, ← la, Nat.min_self]; exact Nat.le_trans lk (sz rfl)
    · obtain ⟨e1, e2⟩ := zip_at he
      obtain ⟨o1, o2⟩ := zip_at ho
      rw [List.getElem?_map, e1] at o1
      have o1 := Option.some.inj o1
      refine ⟨?_, kid ts hh w1 i _ _ e2 o2⟩
      rw [← o1]
      exact FN.le (any_key (n := 10 * m) X S (K3_mem ks w3 _ (List.mem_of_getElem? e1))) (by omega)
end
end Mine
end

section -- C13
open PySem PySem.Calls PySem.W PyProof.Rows PySem.SeqAt PySem.MeetsSeq
set_option maxRecDepth 100000
set_option linter.unusedVariables false
namespace Mine
section
variable {w : World} {H : Heap} {n : Nat} {k : Addr} {p q d : PD} {F : Fm} {look : Look} {hk : PD → Int} {wv sv : PD} {keep tn : Bool} {wo : Str → Bool}
theorem any_all (X : Env1 w H) (S : Ser w H sv tn) (Wn : Wan w H wv wo) : ∀ m, AnyTo w H wv sv keep tn wo k m ∧ ∀ a b, ht (.o a b) ≤ m → WT (.o a b) → Asd w H wv sv keep true (10 * m + 9) (laid k (.o a b)) (tell keep wo tn (.o a b))
  | 0 => by
    refine ⟨fun t hh hw => ?_, fun a b hh _ => by rw [ht] at hh; omega⟩
    match t, hh, hw with
    | .n i, _, _ => rw [tell, laid]; exact any_int (n := 8) X S
    | .t x, _, _ => rw [tell, laid]; exact any_str (n := 8) X S
    | .z, _, _ => rw [tell, laid]; exact any_none (n := 8) X S
    | .l ts, hh, _ => rw [ht] at hh; omega
    | .u ts, hh, _ => rw [ht] at hh; omega
    | .o a b, hh, _ => rw [ht] at hh; omega
    | .d ks ts, hh, _ => rw [ht] at hh; omega
  | m + 1 => by
    obtain ⟨IH, IHo⟩ := any_all X S Wn m
    have kid : ∀ ts : List T, htL ts + 1 ≤ m + 1 → WTL ts → ∀ (i : Nat) x r, (laidL k ts)[i]? = some x → (tellL keep wo tn ts)[i]? = some r → Any w H wv sv keep false (10 * m + 10) x r := fun ts h1 h2 i x r hx hr => by
      rw [laidL_map, List.getElem?_map] at hx
      rw [tellL_map, List.getElem?_map] at hr
      obtain ⟨t, ht', rfl⟩ := Option.map_eq_some_iff.mp hx
      rw [ht'] at hr
      obtain rfl := Option.some.inj hr
      have hm := List.mem_of_getElem? ht'
      exact IH t (by have := htL_mem t hm; omega) (WTL_mem h2 t hm)
    have obj : ∀ a b, ht (.o a b) ≤ m + 1 → WT (.o a b) → Asd w H wv sv keep true (10 * (m + 1) + 9) (laid k (.o a b)) (tell keep wo tn (.o a b)) := fun a b hh hw => by
      rw [ht] at hh
      rw [WT] at hw
      obtain ⟨ta, ea⟩ := ty_laid k a
      obtain ⟨tb, eb⟩ := ty_laid k b
      have := asd_obj (n := 10 * m + 9) (k := k) (rec := true) X S Wn (fun _ => ⟨_, ea⟩) (fun _ => ⟨_, eb⟩) (fun _ => told_of X S IH IHo a (by omega) hw.1) (fun _ => told_of X S IH IHo b (by omega) hw.2)
      rw [laid, tell]
      exact FN.le this (by omega)
    refine ⟨fun t hh hw => ?_, obj⟩
    match t, hh, hw with
    | .n i, _, _ => rw [tell, laid]; exact FN.le (any_int (n := 8) X S) (by omega)
    | .t x, _, _ => rw [tell, laid]; exact FN.le (any_str (n := 8) X S) (by omega)
    | .z, _, _ => rw [tell, laid]; exact FN.le (any_none (n := 8) X S) (by omega)
    | .l ts, hh, hw =>
      rw [ht] at hh
      rw [WT] at hw
      rw [tell, laid]
      exact FN.le (any_list (n := 10 * m + 9) X.toEnv0 (by rw [laidL_map, tellL_map, List.length_map, List.length_map]) (by rw [laidL_map, List.length_map]; exact Nat.le_trans hw.2 (sz rfl)) (kid ts hh hw.1)) (by omega)
    | .u ts, hh, hw =>
      rw [ht] at hh
      rw [WT] at hw
      rw [tell, laid]
      have := any_tup (n := 10 * m + 9) (ik := false) X.toEnv0 (by rw [laidL_map, tellL_map, List.length_map, List.length_map]) (by rw [laidL_map, List.length_map]; exact Nat.le_trans hw.2 (sz rfl)) (kid ts hh hw.1)
      rw [Bool.or_false] at this
      exact FN.le this (by omega)
    | .o a b, hh, hw =>
      have := obj a b hh hw
      rw [laid] at this ⊢
      exact any_obj (n := 10 * m + 17) X.toEnv0 this
    | .d ks ts, hh, hw =>
      rw [ht] at hh
      rw [WT] at hw
      obtain ⟨w1, w2, w3⟩ := hw
      rw [tell, laid]
      have la : ks.length = (laidL k ts).length := by rw [laidL_map, List.length_map]; exact w2
      have lb : ks.length = (tellL keep wo tn ts).length := by rw [tellL_map, List.length_map]; exact w2
      have lk : ks.length ≤ 2 := ks_cases (P := fun ks _ => ks.length ≤ 2) (Nat.zero_le _) (fun _ _ _ => by simp) (fun _ _ _ _ => by simp) ks w3 _ la
      refine FN.le (any_dict (n := 10 * m + 9) X ?_ ?_ (ks_idx ks w3 _ la) (ks_keys tn ks w3 _ lb) fun i e o he ho => ?_) (by omega)
      · rw [List.length_zip, List.length_zip, List.length_map, ← la, ← lb]
      · rw [List.length_zip, ← la, Nat.min_self]; exact Nat.le_trans lk (sz rfl)
      · obtain ⟨e1, e2⟩ := zip_at he
        obtain ⟨o1, o2⟩ := zip_at ho
        rw [List.getElem?_map, e1] at o1
        have o1 := Option.some.inj o1
        refine ⟨?_, kid ts hh w1 i _ _ e2 o2⟩
        rw [← o1]
        exact FN.le (any_key (n := 10 * m) X S (K3_mem ks w3 _ (List.mem_of_getElem? e1))) (by omega)
/-- asdict(one, filter=.., retain_collection_types=.., value_serializer=..) -/
theorem asdict_top (X : Env1 w H) (S : Ser w H sv tn) (Wn : Wan w H wv wo) {a b : T} {m : Nat} (hh : ht (.o a b) ≤ m + 1) (hw : WT (.o a b)) : FN prg w (hkW w) H (10 * m + 15) (.val (.ref 472)) [laid k (.o a b)] (topKs keep wv sv) (tell keep wo tn (.o a b)) := by
  obtain ⟨IH, IHo⟩ := any_all (k := k) (keep := keep) X S Wn m
  rw [ht] at hh
  rw [WT] at hw
  obtain ⟨ta, ea⟩ := ty_laid k a
  obtain ⟨tb, eb⟩ := ty_laid k b
  rw [laid, tell]
  exact asd_objF (n := 10 * m + 9) (k := k) X S Wn (fun _ => ⟨_, ea⟩) (fun _ => ⟨_, eb⟩) (fun _ => told_of X S IH IHo a (by omega) hw.1) (fun _ => told_of X S IH IHo b (by omega) hw.2)
theorem Ser.none0 : Ser w H (.val .none) false := ⟨fun _ => rfl, fun e => nomatch e⟩
theorem Wan.none0 : Wan w H (.val .none) (fun _ => true) := ⟨fun _ _ => rfl, fun e => nomatch e⟩
/-- asdict(again) -/
theorem asdict_plain (X : Env1 w H) {a b : T} {m : Nat} (hh : ht (.o a b) ≤ m + 1) (hw : WT (.o a b)) : FN prg w (hkW w) H (10 * m + 15) (.val (.ref 472)) [laid k (.o a b)] [] (tell false (fun _ => true) false (.o a b)) := by
  obtain ⟨IH, IHo⟩ := any_all (k := k) (keep := false) X .none0 .none0 m
  rw [ht] at hh
  rw [WT] at hw
  obtain ⟨ta, ea⟩ := ty_laid k a
  obtain ⟨tb, eb⟩ := ty_laid k b
  rw [laid, tell]
  exact FN.defK (names := asdNames) asdWc X.toEnv0 rfl (asd_binds0 X.toEnv0) (by decide) rfl (asd_body (n := 10 * m + 9) (k := k) (rec := true) X .none0 .none0 (FN.le (wanted_none (n := 0) X.toEnv0) (by omega)) (fun _ => ⟨_, ea⟩) (fun _ => ⟨_, eb⟩) (fun _ => told_of X .none0 IH IHo a (by omega) hw.1) (fun _ => told_of X .none0 IH IHo b (by omega) hw.2))
/-- asdict(one, recurse=False) -/
theorem asdict_flat (X : Env1 w H) : FN prg w (hkW w) H (n + 6) (.val (.ref 472)) [.obj k p q] [("recurse", .val (.bool false))] (.dict [(.str "p", p), (.str "q", q)]) :=
  FN.defK (names := asdNames) asdWc X.toEnv0 rfl (asd_bindsR X.toEnv0) (by decide) rfl (asd_body (n := n) (k := k) (rec := false) (rp := p) (rq := q) X .none0 .none0 (FN.le (wanted_none X.toEnv0) (Nat.le_add_left 2 (n + 3))) (fun e => nomatch e) (fun e => nomatch e) (fun _ => rfl) (fun _ => rfl))
end
end Mine
end

section -- D1
open PySem PySem.Calls PySem.W PyProof.Rows PySem.SeqAt PySem.MeetsSeq
set_option maxRecDepth 100000
set_option linter.unusedVariables false
namespace Mine
noncomputable abbrev astF (w : World) : Fm := ⟨(fdOf (KK w) 483).scope, some (codeOf (fdOf (KK w) 483)), .none⟩
noncomputable def astBody (w : World) : List Stmt := forBody (bodyOf (fdOf (KK w) 483))
noncomputable def astTail (w : World) : List Stmt := (astBody w).drop 2
abbrev astWc : List Str := ["wanted", "tuple_factory", "retain"]
/-- what the loop of astuple leans on -/
structure AstL (l : Look) (k : Addr) (p q wv : PD) (keep rec : Bool) (D : Addr) : Prop where
  inst : l "inst" = some (.obj k p q)
  rv : l "rv" = some (.val (.ref D))
  wanted : l "wanted" = some wv
  tf : l "tuple_factory" = some (.val (.type "tuple"))
  ret : l "retain" = some (.val (.bool keep))
  recur : l "recurse" = some (.val (.bool rec))
section
variable {w : World} {H : Heap} {n : Nat} {k : Addr} {p q d : PD} {F : Fm} {look : Look} {hk : PD → Int}
theorem AstL.upd {l : Look} {wv : PD} {keep rec : Bool} {D : Addr} (h : AstL l k p q wv keep rec D) {x : Str} {d0 : PD} (hx : x ∉ (["inst", "rv", "wanted", "tuple_factory", "retain", "recurse"] : List Str)) : AstL (upd l x d0) k p q wv keep rec D := by
  have ne : ∀ y ∈ (["inst", "rv", "wanted", "tuple_factory", "retain", "recurse"] : List Str), Mine.upd l x d0 y = l y := fun y hy => by
    unfold Mine.upd
    exact if_neg (by intro e; subst e; exact hx hy)
  exact ⟨(ne _ (by simp)).trans h.inst, (ne _ (by simp)).trans h.rv, (ne _ (by simp)).trans h.wanted, (ne _ (by simp)).trans h.tf, (ne _ (by simp)).trans h.ret, (ne _ (by simp)).trans h.recur⟩
def astKs (rec : Bool) (wv : PD) (keep : Bool) : List (Str × PD) := [("recurse", .val (.bool rec)), ("wanted", wv), ("tuple_factory", .val (.type "tuple")), ("retain_collection_types", .val (.bool keep))]
def Ast (w : World) (H : Heap) (wv : PD) (keep rec : Bool) (n : Nat) (d r : PD) : Prop := FN prg w (hkW w) H n (.val (.ref 483)) [d] (astKs rec wv keep) r
def astKs2 (keep : Bool) : List (Str × PD) := [("tuple_factory", .val (.type "tuple")), ("retain_collection_types", .val (.bool keep))]
def Ast2 (w : World) (H : Heap) (keep : Bool) (n : Nat) (d r : PD) : Prop := FN prg w (hkW w) H n (.val (.ref 483)) [d] (astKs2 keep) r
/-- an item of a row, told one step deep -/
def Elm (A : PD → PD → Prop) (d r : PD) : Prop := (∃ T, nameD d = some T ∧ r = d) ∨ ∃ k p q, d = .obj k p q ∧ A (.obj k p q) r
/-- how a value is told in astuple -/
inductive TTold (w : World) (H : Heap) (wv : PD) (keep : Bool) (n : Nat) : PD → PD → Prop
  | atom {d : PD} (h : FN prg w (hkW w) H (n + 1) (.val (.ref 452)) [d] [] (.val (.bool true))) : TTold w H wv keep n d d
  | obj {k : Addr} {p q r : PD} (h : Ast w H wv keep true (n + 5) (.obj k p q) r) : TTold w H wv keep n (.obj k p q) r
  | list {ds rs : List PD} (hlen : rs.length = ds.length) (hz : ds.length ≤ sizeLine) (hch : ∀ (i : Nat) x r, ds[i]? = some x → rs[i]? = some r → Elm (Ast w H wv keep true (n + 1)) x r) : TTold w H wv keep n (.list ds) (.list rs)
  | tup {ds rs : List PD} (hlen : rs.length = ds.length) (hz : ds.length ≤ sizeLine) (hch : ∀ (i : Nat) x r, ds[i]? = some x → rs[i]? = some r → Elm (Ast w H wv keep true (n + 1)) x r) : TTold w H wv keep n (.tup ds) (if keep then .tup rs else .list rs)
  | dict {es out : List (PD × PD)} (hlen : out.length = es.length) (hz : es.length ≤ sizeLine) (hidx : ∀ (i : Nat) e, es[i]? = some e → (es.findIdx fun y => keyEq y.1 e.1) = i)
    (hkeys : ∀ (i : Nat) o, out[i]? = some o → KeyAt (out.take i) o.1 .none) (hch : ∀ (i : Nat) e o, es[i]? = some e → out[i]? = some o → (∃ T, nameD e.1 = some T ∧ o.1 = e.1) ∧ Elm (Ast2 w H keep (n + 1)) e.2 o.2) : TTold w H wv keep n (.dict es) (.dict out)
theorem ast_flat (X : Env1 w H) {l : Look} {wv d : PD} {keep : Bool} {D : Addr} {es : List PD} {G : Goal} (hl : AstL l k p q wv keep false D) (hv : l "v" = some d)
    (hze : es.length ≤ sizeLine) (hN : G.N l [(D, .lst (es ++ [d]))]) : EX prg w (hkW w) H (n + 5) (astF w) astWc l [(D, .lst es)] (astTail w) G := by
  have X0 := X.toEnv0
  refine EX.ifF (ET.cmp (EV.name hl.recur) EV.bool CMP.is) (EX.append hl.rv (EV.name hv) hze (EX.nil (EX.nil ?_)))
  exact hN
/-- an item of a row, asked and told -/
theorem ev_elm (X : Env1 w H) {l : Look} {wv d r : PD} {keep : Bool} {F : Fm} {x : Str} {pos p1 p2 p3 p4 p5 p6 p7 p8 k1 k2 k3 k4 p9 q1 q2 q3 q4 : Pos} {kk : Nat} (E : Elm (Ast w H wv keep true (n + 1)) d r) (hx : l x = some d) (hw : l "wanted" = some wv) (ht : l "tuple_factory" = some (.val (.type "tuple"))) (hr : l "retain" = some (.val (.bool keep)))
    (hdb : (x == ("__debug__" : Str)) = false := by rfl) (h1 : (F.sc.names.lookup ("has" : Str) == some .globalImplicit) = true := by rfl) (h2 : (F.sc.names.lookup ("kind_of" : Str) == some .globalImplicit) = true := by rfl) (h3 : (F.sc.names.lookup ("astuple" : Str) == some .globalImplicit) = true := by rfl) :
    EV prg w (hkW w) H (n + 1) F l (.IfExp (.Call (.Name ("has" : Str) p1) [.Call (.Name ("kind_of" : Str) p2) [.Name x p3] [] p4] [] p5)
      (.Call (.Name ("astuple" : Str) p6) [.Name x p7] [⟨some "recurse", .Constant (.bool true) kk q1, k1⟩, ⟨some "wanted", .Name "wanted" q2, k2⟩, ⟨some "tuple_factory", .Name "tuple_factory" q3, k3⟩, ⟨some "retain_collection_types", .Name "retain" q4, k4⟩] p8) (.Name x p9) pos) r := by
  have X0 := X.toEnv0
  rcases E with ⟨T, hT, rfl⟩ | ⟨k, p, q, rfl, h⟩
  · exact EV.ifF (ET.hasNot X0 hx hT hdb h1 h2) (EV.name hx hdb)
  · exact EV.ifT (ET.hasObj X0 hx hdb h1 h2) (EV.callF (EV.gk X0 (hx := h3)) (.cons (EV.name hx hdb) .nil) (.cons EV.bool (.cons (EV.name hw) (.cons (EV.name ht) (.cons (EV.name hr) .nil)))) (KP.Kk X0) h)
theorem ev_elm2 (X : Env1 w H) {l : Look} {d r : PD} {keep : Bool} {F : Fm} {x : Str} {pos p1 p2 p3 p4 p5 p6 p7 p8 k3 k4 p9 q3 q4 : Pos} (E : Elm (Ast2 w H keep (n + 1)) d r) (hx : l x = some d) (ht : l "tuple_factory" = some (.val (.type "tuple"))) (hr : l "retain" = some (.val (.bool keep)))
    (hdb : (x == ("__debug__" : Str)) = false := by rfl) (h1 : (F.sc.names.lookup ("has" : Str) == some .globalImplicit) = true := by rfl) (h2 : (F.sc.names.lookup ("kind_of" : Str) == some .globalImplicit) = true := by rfl) (h3 : (F.sc.names.lookup ("astuple" : Str) == some .globalImplicit) = true := by rfl) :
    EV prg w (hkW w) H (n + 1) F l (.IfExp (.Call (.Name ("has" : Str) p1) [.Call (.Name ("kind_of" : Str) p2) [.Name x p3] [] p4] [] p5)
      (.Call (.Name ("astuple" : Str) p6) [.Name x p7] [⟨some "tuple_factory", .Name "tuple_factory" q3, k3⟩, ⟨some "retain_collection_types", .Name "retain" q4, k4⟩] p8) (.Name x p9) pos) r := by
  have X0 := X.toEnv0
  rcases E with ⟨T, hT, rfl⟩ | ⟨k, p, q, rfl, h⟩
  · exact EV.ifF (ET.hasNot X0 hx hT hdb h1 h2) (EV.name hx hdb)
  · exact EV.ifT (ET.hasObj X0 hx hdb h1 h2) (EV.callF (EV.gk X0 (hx := h3)) (.cons (EV.name hx hdb) .nil) (.cons (EV.name ht) (.cons (EV.name hr) .nil)) (KP.Kk X0) h)
theorem ast_list (X : Env1 w H) {l : Look} {wv : PD} {keep : Bool} {D : Addr} {es : List PD} {G : Goal} (hl : AstL l k p q wv keep true D) {ds rs : List PD} (hv : l "v" = some (.list ds)) (hlen : rs.length = ds.length) (hz : ds.length ≤ sizeLine) (hch : ∀ (i : Nat) x r, ds[i]? = some x → rs[i]? = some r → Elm (Ast w H wv keep true (n + 1)) x r) (hze : es.length ≤ sizeLine) (hN : ∀ l', AstL l' k p q wv keep true D → G.N l' [(D, .lst (es ++ [.list rs]))]) : EX prg w (hkW w) H (n + 5) (astF w) astWc l [(D, .lst es)] (astTail w) G := by
  have X0 := X.toEnv0
  refine EX.ifT (ET.cmp (EV.name hl.recur) EV.bool CMP.is) ?_
  refine EX.ifF (ET.val (d := .val (.bool false)) (EV.callF (EV.gk X0) (.cons (EV.name hv) .nil) .nil (KP.Kk X0) (isAtomic X0 rfl rfl (by kernel_rfl))) (.bool _)) ?_
  refine EX.ifF (ET.hasNot X0 hv rfl) ?_
  refine EX.ifT (ET.val (d := .val (.bool true)) (EV.callF (EV.bk X0) (.cons (EV.name hv) (.cons (EV.tup (ds := [.type "tuple", .type "list", .type "set", .type "frozenset"].map .val) (.cons (EV.bk X0) (.cons (EV.bk X0) (.cons (EV.bk X0) (.cons (EV.bk X0) .nil))))) .nil)) .nil KP.blt (FN.isiN X0.toKOk rfl (by kernel_rfl))) (.bool _)) ?_
  refine EX.assignListI (rs := rs) (f := fun x l => match x with | .one d => upd l "j" d | _ => l) (IT.list (EV.name hv)) (by rw [List.length_map]; exact hz) (.of (by rfl)) (by rw [List.length_map]; exact hlen) (fun x hx => ?_) (fun x hx => ?_) (fun i x r hx hr => ?_) ?_
  · obtain ⟨d, _, rfl⟩ := List.mem_map.mp hx; exact TGI.one TG.name
  · obtain ⟨d, _, rfl⟩ := List.mem_map.mp hx; exact compLook_upd (by rfl)
  · rw [List.getElem?_map] at hx
    obtain ⟨d, hd, rfl⟩ := Option.map_eq_some_iff.mp hx
    exact EV.le (ev_elm X (hch i d r hd hr) rfl hl.wanted hl.tf hl.ret) (by omega)
  · have hz' : rs.length ≤ sizeLine := hlen ▸ hz
    have hl2 : AstL (upd l "items" (.list rs)) k p q wv keep true D := hl.upd (by decide)
    have hv2 : (upd l "items" (.list rs)) "v" = some (.list ds) := hv
    cases keep with
    | true =>
      refine EX.append hl2.rv (EV.ifT (ET.cmp (EV.name hl2.ret) EV.bool CMP.is) (EV.callF (EV.gk X0) (.cons (EV.name rfl) (.cons (EV.name hv2) .nil)) .nil (KP.Kk X0) (gathered_list X0))) hze (EX.nil (EX.nil (EX.nil (EX.nil (EX.nil ?_)))))
      exact hN _ hl2
    | false =>
      refine EX.append hl2.rv (EV.ifF (ET.cmp (EV.name hl2.ret) EV.bool CMP.is) (EV.name rfl)) hze (EX.nil (EX.nil (EX.nil (EX.nil (EX.nil ?_)))))
      exact hN _ hl2
theorem ast_tup (X : Env1 w H) {l : Look} {wv : PD} {keep : Bool} {D : Addr} {es : List PD} {G : Goal} (hl : AstL l k p q wv keep true D) {ds rs : List PD} (hv : l "v" = some (.tup ds)) (hlen : rs.length = ds.length) (hz : ds.length ≤ sizeLine) (hch : ∀ (i : Nat) x r, ds[i]? = some x → rs[i]? = some r → Elm (Ast w H wv keep true (n + 1)) x r) (hze : es.length ≤ sizeLine) (hN : ∀ l', AstL l' k p q wv keep true D → G.N l' [(D, .lst (es ++ [if keep then .tup rs else .list rs]))]) : EX prg w (hkW w) H (n + 5) (astF w) astWc l [(D, .lst es)] (astTail w) G := by
  have X0 := X.toEnv0
  refine EX.ifT (ET.cmp (EV.name hl.recur) EV.bool CMP.is) ?_
  refine EX.ifF (ET.val (d := .val (.bool false)) (EV.callF (EV.gk X0) (.cons (EV.name hv) .nil) .nil (KP.Kk X0) (isAtomic X0 rfl rfl (by kernel_rfl))) (.bool _)) ?_
  refine EX.ifF (ET.hasNot X0 hv rfl) ?_
  refine EX.ifT (ET.val (d := .val (.bool true)) (EV.callF (EV.bk X0) (.cons (EV.name hv) (.cons (EV.tup (ds := [.type "tuple", .type "list", .type "set", .type "frozenset"].map .val) (.cons (EV.bk X0) (.cons (EV.bk X0) (.cons (EV.bk X0) (.cons (EV.bk X0) .nil))))) .nil)) .nil KP.blt (FN.isiN X0.toKOk rfl (by kernel_rfl))) (.bool _)) ?_
  refine EX.assignListI (rs := rs) (f := fun x l => match x with | .one d => upd l "j" d | _ => l) (IT.tup (EV.name hv)) (by rw [List.length_map]; exact hz) (.of (by rfl)) (by rw [List.length_map]; exact hlen) (fun x hx => ?_) (fun x hx => ?_) (fun i x r hx hr => ?_) ?_
  · obtain ⟨d, _, rfl⟩ := List.mem_map.mp hx; exact TGI.one TG.name
  · obtain ⟨d, _, rfl⟩ := List.mem_map.mp hx; exact compLook_upd (by rfl)
  · rw [List.getElem?_map] at hx
    obtain ⟨d, hd, rfl⟩ := Option.map_eq_some_iff.mp hx
    exact EV.le (ev_elm X (hch i d r hd hr) rfl hl.wanted hl.tf hl.ret) (by omega)
  · have hz' : rs.length ≤ sizeLine := hlen ▸ hz
    have hl2 : AstL (upd l "items" (.list rs)) k p q wv keep true D := hl.upd (by decide)
    have hv2 : (upd l "items" (.list rs)) "v" = some (.tup ds) := hv
    cases keep with
    | true =>
      refine EX.append hl2.rv (EV.ifT (ET.cmp (EV.name hl2.ret) EV.bool CMP.is) (EV.callF (EV.gk X0) (.cons (EV.name rfl) (.cons (EV.name hv2) .nil)) .nil (KP.Kk X0) (gathered_tup X0 hz'))) hze (EX.nil (EX.nil (EX.nil (EX.nil (EX.nil ?_)))))
      exact hN _ hl2
    | false =>
      refine EX.append hl2.rv (EV.ifF (ET.cmp (EV.name hl2.ret) EV.bool CMP.is) (EV.name rfl)) hze (EX.nil (EX.nil (EX.nil (EX.nil (EX.nil ?_)))))
      exact hN _ hl2
end
end Mine
end

section -- D2
open PySem PySem.Calls PySem.W PyProof.Rows PySem.SeqAt PySem.MeetsSeq
set_option maxRecDepth 100000
set_option linter.unusedVariables false
namespace Mine
section
variable {w : World} {H : Heap} {n : Nat} {k : Addr} {p q d : PD} {F : Fm} {look : Look} {hk : PD → Int}
theorem ast_dict (X : Env1 w H) {l : Look} {wv : PD} {keep : Bool} {D : Addr} {es : List PD} {G : Goal} (hl : AstL l k p q wv keep true D) {ds out : List (PD × PD)} (hv : l "v" = some (.dict ds)) (hlen : out.length = ds.length) (hz : ds.length ≤ sizeLine) (hidx : ∀ (i : Nat) e, ds[i]? = some e → (ds.findIdx fun y => keyEq y.1 e.1) = i) (hkeys : ∀ (i : Nat) o, out[i]? = some o → KeyAt (out.take i) o.1 .none) (hch : ∀ (i : Nat) e o, ds[i]? = some e → out[i]? = some o → (∃ T, nameD e.1 = some T ∧ o.1 = e.1) ∧ Elm (Ast2 w H keep (n + 1)) e.2 o.2) (hze : es.length ≤ sizeLine) (hN : ∀ l', AstL l' k p q wv keep true D → G.N l' [(D, .lst (es ++ [.dict out]))]) : EX prg w (hkW w) H (n + 5) (astF w) astWc l [(D, .lst es)] (astTail w) G := by
  have X0 := X.toEnv0
  refine EX.ifT (ET.cmp (EV.name hl.recur) EV.bool CMP.is) ?_
  refine EX.ifF (ET.val (d := .val (.bool false)) (EV.callF (EV.gk X0) (.cons (EV.name hv) .nil) .nil (KP.Kk X0) (isAtomic X0 rfl rfl (by kernel_rfl))) (.bool _)) ?_
  refine EX.ifF (ET.hasNot X0 hv rfl) ?_
  refine EX.ifF (ET.val (d := .val (.bool false)) (EV.callF (EV.bk X0) (.cons (EV.name hv) (.cons (EV.tup (ds := [.type "tuple", .type "list", .type "set", .type "frozenset"].map .val) (.cons (EV.bk X0) (.cons (EV.bk X0) (.cons (EV.bk X0) (.cons (EV.bk X0) .nil))))) .nil)) .nil KP.blt (FN.isiN X0.toKOk rfl (by kernel_rfl))) (.bool _)) ?_
  refine EX.ifT (ET.val (d := .val (.bool true)) (EV.callF (EV.bk X0) (.cons (EV.name hv) (.cons (EV.bk X0) .nil)) .nil KP.blt (FN.isi1 X0.toKOk rfl (by kernel_rfl))) (.bool _)) ?_
  obtain ⟨P, hP, hH⟩ := X.t483
  refine EX.append (d := .dict out) hl.rv ?_ hze (EX.nil (EX.nil (EX.nil (EX.nil (EX.nil (EX.nil ?_))))))
  · refine Eq.mp (congrArg (fun z => EV prg w (hkW w) H (n + 5) _ _ _ (.dict z)) (kdOf_map hlen hidx)) ?_
    refine dictGen_ev (prog := prg) (w := w) (H := H) (n := n + 1) (F := astF w) (kd := kdOf ds out) (f := fun x l => match x with | .tup [a, b] => upds l ["kk", "vv"] [a, b] | _ => l) (items := ds.map fun p => Item.tup [p.1, p.2]) (P := P) X0 (by omega) (EV.bk X0) (IT.items (EV.name hv) hz) (by rw [List.length_map]; exact hz) (.of (by rfl)) (by rfl) (by rfl) (by rfl) hH hP (fun x hx => ?_) (fun x hx => ?_) (fun x hx => ?_) (fun i x hx => ?_)
    · obtain ⟨e, _, rfl⟩ := List.mem_map.mp hx
      exact TGI.tup (xs := [("kk", _), ("vv", _)]) rfl (by intro x hx; simp at hx; rcases hx with rfl | rfl <;> exact .inl rfl)
    · obtain ⟨e, _, rfl⟩ := List.mem_map.mp hx
      exact genLook_upds (by rfl) (by rfl)
    · obtain ⟨i, hi, hix⟩ := List.mem_iff_getElem.mp hx
      obtain ⟨e, o, he, ho, rfl, hkd⟩ := kdOf_at hlen hidx (List.getElem?_eq_some_iff.mpr ⟨hi, hix⟩)
      rw [hkd]
      obtain ⟨c1, c2⟩ := hch i e o he ho
      refine EV.tup (ds := [o.1, o.2]) (.cons ?_ (.cons ?_ .nil)) (sz rfl)
      · exact ev_elm2 X (.inl c1) rfl hl.tf hl.ret
      · exact ev_elm2 X c2 rfl hl.tf hl.ret
    · obtain ⟨e, o, he, ho, rfl, hkd⟩ := kdOf_at hlen hidx hx
      rw [List.map_take, kdOf_map hlen hidx, hkd]
      exact hkeys i o ho
  · exact hN _ hl
theorem ast_tail (X : Env1 w H) {l : Look} {wv d r : PD} {keep : Bool} {D : Addr} {es : List PD} {G : Goal} (hl : AstL l k p q wv keep true D) (hv : l "v" = some d) (T : TTold w H wv keep n d r)
    (hze : es.length ≤ sizeLine) (hN : ∀ l', AstL l' k p q wv keep true D → G.N l' [(D, .lst (es ++ [r]))]) : EX prg w (hkW w) H (n + 5) (astF w) astWc l [(D, .lst es)] (astTail w) G := by
  have X0 := X.toEnv0
  cases T with
  | atom h =>
    refine EX.ifT (ET.cmp (EV.name hl.recur) EV.bool CMP.is) ?_
    refine EX.ifT (ET.val (d := .val (.bool true)) (EV.callF (EV.gk X0) (.cons (EV.name hv) .nil) .nil (KP.Kk X0) (h.le (by omega))) (.bool _)) ?_
    refine EX.append hl.rv (EV.name hv) hze (EX.nil (EX.nil (EX.nil ?_)))
    exact hN _ hl
  | obj h =>
    refine EX.ifT (ET.cmp (EV.name hl.recur) EV.bool CMP.is) ?_
    refine EX.ifF (ET.val (d := .val (.bool false)) (EV.callF (EV.gk X0) (.cons (EV.name hv) .nil) .nil (KP.Kk X0) (isAtomic X0 rfl rfl (by kernel_rfl))) (.bool _)) ?_
    refine EX.ifT (ET.hasObj X0 hv) ?_
    refine EX.append hl.rv (EV.callF (EV.gk X0) (.cons (EV.name hv) .nil) (.cons EV.bool (.cons (EV.name hl.wanted) (.cons (EV.name hl.tf) (.cons (EV.name hl.ret) .nil)))) (KP.Kk X0) h) hze (EX.nil (EX.nil (EX.nil (EX.nil ?_))))
    exact hN _ hl
  | list hlen hz hch => exact ast_list X hl hv hlen hz hch hze hN
  | tup hlen hz hch => exact ast_tup X hl hv hlen hz hch hze hN
  | dict hlen hz hidx hkeys hch => exact ast_dict X hl hv hlen hz hidx hkeys hch hze hN
theorem ast_turn (X : Env1 w H) {l : Look} {wv dv r : PD} {keep rec : Bool} {wo : Str → Bool} {D : Addr} {es : List PD} {x : Str} {G : Goal} {i : Nat} (Wn : Wan w H wv wo) (hl : AstL l k p q wv keep rec D)
    (hv : KeyAt [(.str (Str.ofString "p"), p), (.str (Str.ofString "q"), q)] (.str x) (some i) ∧ ∃ k', ([(.str (Str.ofString "p"), p), (.str (Str.ofString "q"), q)] : List (PD × PD))[i]? = some (k', dv))
    (T : wo x = true → if rec then TTold w H wv keep n dv r else r = dv) (hze : es.length ≤ sizeLine)
    (hN : ∀ l', AstL l' k p q wv keep rec D → G.N l' [(D, .lst (es ++ if wo x then [r] else []))] ∧ G.C l' [(D, .lst (es ++ if wo x then [r] else []))]) :
    EX prg w (hkW w) H (n + 5) (astF w) astWc (upd l "a" (.attr x)) [(D, .lst es)] (astBody w) G := by
  have X0 := X.toEnv0
  have h1 : AstL (upd l "a" (.attr x)) k p q wv keep rec D := hl.upd (by decide)
  refine EX.assign (d1 := dv) (EV.subAny (EV.attr (EV.name h1.inst) (AT.objHeld X0.toKOk (by kernel_rfl) (by kernel_rfl) (a := _) (by rfl) (by kernel_rfl))) (EV.attrNm X0 rfl) (GI.dict (by omega) hv.1 hv.2.choose_spec)) ?_
  have h2 := h1.upd (x := "v") (d0 := dv) (by decide)
  have ha : (upd (upd l "a" (.attr x)) "v" dv) "a" = some (.attr x) := rfl
  have hv2 : (upd (upd l "a" (.attr x)) "v" dv) "v" = some dv := rfl
  have fin : wo x = true → EX prg w (hkW w) H (n + 5) (astF w) astWc (upd (upd l "a" (.attr x)) "v" dv) [(D, .lst es)] (astTail w) G := fun hw => by
    have T := T hw
    rw [hw] at hN
    cases rec with
    | false =>
      obtain rfl := T
      exact ast_flat X h2 hv2 hze (hN _ h2).1
    | true => exact ast_tail X h2 hv2 T hze fun l'' h'' => (hN l'' h'').1
  cases hn : isNoneD wv with
  | true =>
    refine EX.ifF (ET.bool (EB.andF (ET.cmp (EV.name h2.wanted) EV.none (CMP.notNone' (b := false) hn)))) (EX.nil ?_)
    exact fin (Wn.no hn x)
  | false =>
    obtain ⟨k1, k2⟩ := Wn.is hn
    cases hw : wo x with
    | false =>
      refine EX.ifT (ET.bool (EB.andT (ET.cmp (EV.name h2.wanted) EV.none (CMP.notNone' (b := true) hn)) (EB.andT (ET.eq (ET.not (ET.val (EV.callF (EV.name h2.wanted) (.cons (EV.name ha) (.cons (EV.name hv2) .nil)) (.nil) k1 (k2 (n + 4) x dv)) (.bool _))) (by rw [hw]; rfl)) EB.andNil))) (EX.cont ?_)
      have := (hN _ h2).2
      rw [hw] at this
      simpa using this
    | true =>
      refine EX.ifF (ET.bool (EB.andT (ET.cmp (EV.name h2.wanted) EV.none (CMP.notNone' (b := true) hn)) (EB.andF (ET.eq (ET.not (ET.val (EV.callF (EV.name h2.wanted) (.cons (EV.name ha) (.cons (EV.name hv2) .nil)) (.nil) k1 (k2 (n + 4) x dv)) (.bool _))) (by rw [hw]; rfl))))) (EX.nil ?_)
      exact fin hw
end
end Mine
end

section -- D3
open PySem PySem.Calls PySem.W PyProof.Rows PySem.SeqAt PySem.MeetsSeq
set_option maxRecDepth 100000
set_option linter.unusedVariables false
namespace Mine
section
variable {w : World} {H : Heap} {n : Nat} {k : Addr} {p q d : PD} {F : Fm} {look : Look} {hk : PD → Int}
def astNames : List Str := ["inst", "recurse", "wanted", "tuple_factory", "retain_collection_types", "named"]
theorem ast_binds4 (X : Env0 (KK w) H) {wv d : PD} {keep rec : Bool} : BINDS prg w hk H (fdOf (KK w) 483) [d] (astKs rec wv keep) astNames [d, .val (.bool rec), wv, .val (.type "tuple"), .val (.bool keep), .dict []] := by
  refine BINDS.dflt0 (ds := [d, .val (.bool rec), wv, .val (.type "tuple"), .val (.bool keep)]) (R := fun vs us => vs ++ us) X.toKOk (fun vs us h1 h2 => ?_) (fun L vs us i1 i2 => i1.append i2) rfl
  match vs, h1, us, h2 with
  | [a], _, [b, c, e, f], _ => kernel_rfl
theorem ast_binds2 (X : Env0 (KK w) H) {d : PD} {keep : Bool} : BINDS prg w hk H (fdOf (KK w) 483) [d] (astKs2 keep) astNames [d, .val (.bool true), .val .none, .val (.type "tuple"), .val (.bool keep), .dict []] := by
  refine BINDS.dflt0 (ds := [d, .val (.bool true), .val .none, .val (.type "tuple"), .val (.bool keep)]) (R := fun vs us => [vs.headD .none, .bool true, .none, us.headD .none, us.getD 1 .none]) X.toKOk (fun vs us h1 h2 => ?_) (fun L vs us i1 i2 => ?_) rfl
  · match vs, h1, us, h2 with
    | [a], _, [b, c], _ => kernel_rfl
  · cases i1 with
    | cons j1 j2 => cases i2 with
      | cons k1 k2 => cases k2 with
        | cons k2 k3 => exact .cons j1 (.cons (.val _) (.cons (.val _) (.cons k1 (.cons k2 .nil))))
theorem ast_bindsR (X : Env0 (KK w) H) {d : PD} {rec : Bool} : BINDS prg w hk H (fdOf (KK w) 483) [d] [("recurse", .val (.bool rec))] astNames [d, .val (.bool rec), .val .none, .val (.type "tuple"), .val (.bool false), .dict []] := by
  refine BINDS.dflt0 (ds := [d, .val (.bool rec), .val .none, .val (.type "tuple"), .val (.bool false)]) (R := fun vs us => [vs.headD .none, us.headD .none, .none, .type "tuple", .bool false]) X.toKOk (fun vs us h1 h2 => ?_) (fun L vs us i1 i2 => ?_) rfl
  · match vs, h1, us, h2 with
    | [a], _, [b], _ => kernel_rfl
  · cases i1 with
    | cons j1 j2 => cases i2 with
      | cons k1 k2 => exact .cons j1 (.cons k1 (.cons (.val _) (.cons (.val _) (.cons (.val _) .nil))))
def topKs2 (keep : Bool) (fv : PD) : List (Str × PD) := [("filter", fv), ("retain_collection_types", .val (.bool keep))]
theorem ast_bindsF (X : Env0 (KK w) H) {fv d : PD} {keep : Bool} : BINDS prg w (hkW w) H (fdOf (KK w) 483) [d] (topKs2 keep fv) astNames [d, .val (.bool true), .val .none, .val (.type "tuple"), .val (.bool keep), .dict [(.str "filter", fv)]] := by
  refine BINDS.dflt1 (x := "filter") (d1 := fv) (pu := fun us => us.headD .none) (ds := [d, .val (.bool true), .val .none, .val (.type "tuple"), .val (.bool keep)]) (R := fun vs us => [vs.headD .none, .bool true, .none, .type "tuple", us.getD 1 .none]) X.toKOk (fun vs us h1 h2 => ?_) (fun L vs us i1 i2 => ?_) rfl rfl
  · match vs, h1, us, h2 with
    | [a], _, [b, c], _ => kernel_rfl
  · cases i1 with
    | cons j1 j2 => cases i2 with
      | cons k1 k2 => cases k2 with
        | cons k2 k3 => exact ⟨.cons j1 (.cons (.val _) (.cons (.val _) (.cons (.val _) (.cons k2 .nil)))), k1⟩
/-- what the row holds after the attributes -/
def rowT (wo : Str → Bool) (rp rq : PD) : List PD := (if wo "p" then [rp] else []) ++ (if wo "q" then [rq] else [])
theorem ast_body (X : Env1 w H) {wv wv' nd rp rq : PD} {keep rec : Bool} {wo : Str → Bool} (Wn : Wan w H wv wo) (hw : FN prg w (hkW w) H (n + 5) (.val (.ref 466)) [wv', nd] [] wv)
    (Tp : wo "p" = true → if rec then TTold w H wv keep n p rp else rp = p) (Tq : wo "q" = true → if rec then TTold w H wv keep n q rq else rq = q) :
    EX prg w (hkW w) H (n + 5) (astF w) astWc (fun z => (astNames.zip [.obj k p q, .val (.bool rec), wv', .val (.type "tuple"), .val (.bool keep), nd]).lookup z) [] (bodyOf (fdOf (KK w) 483)) (Rets (.tup (rowT wo rp rq))) := by
  have X0 := X.toEnv0
  refine EX.assign (d1 := .tup [.attr "p", .attr "q"]) (EV.callF (EV.gk X0) (.cons (EV.name rfl) .nil) .nil (KP.Kk X0) (fields_obj X0)) ?_
  refine EX.newOwn EN.list fun D => ?_
  refine EX.assign (d1 := wv) (EV.callF (EV.gk X0) (.cons (EV.name rfl) (.cons (EV.name rfl) .nil)) .nil (KP.Kk X0) hw) ?_
  refine EX.assign (d1 := .val (.bool keep)) (EV.name rfl) ?_
  refine .step (EX1.for (t := .Name "a" _) (items := [.one (.attr "p"), .one (.attr "q")]) (f := fun x l => match x with | .one d => upd l "a" d | _ => l)
    (fun i l o => AstL l k p q wv keep rec D ∧ o = [(D, .lst (rowT (fun x => wo x && (i == 2 || (i == 1 && x == "p"))) rp rq))]) (IT.tup (ds := [.attr "p", .attr "q"]) (EV.name rfl)) ?_ ?_ (fun x hx => ?_) (fun i x l o hx hJ => ?_) ?_)
  · refine ⟨⟨rfl, rfl, rfl, rfl, rfl, rfl⟩, ?_⟩
    simp [rowT]
  · rintro i l o ⟨_, rfl⟩; rfl
  · rcases List.mem_cons.mp hx with rfl | hx
    · exact TGI.one TG.name
    · obtain rfl := List.mem_singleton.mp hx; exact TGI.one TG.name
  · obtain ⟨hl, rfl⟩ := hJ
    have npq : ¬ Str.ofString "q" = Str.ofString "p" := by decide
    match i, hx with
    | 0, hx =>
      obtain rfl := Option.some.inj hx
      refine ast_turn X Wn hl (dv := p) (i := 0) ⟨.of rfl, _, rfl⟩ Tp (by simp [rowT]) fun l' h' => ?_
      cases hw : wo "p" <;> simp [rowT, hw, h', npq]
    | 1, hx =>
      obtain rfl := Option.some.inj hx
      refine ast_turn X Wn hl (dv := q) (i := 1) ⟨.of rfl, _, rfl⟩ Tq ?_ fun l' h' => ?_
      · cases hw : wo "p" <;> simp [rowT, hw, npq] <;> exact sz (by rfl)
      · cases hw : wo "p" <;> cases hw' : wo "q" <;> simp [rowT, hw, hw', h', npq]
  · rintro l o ⟨hl, rfl⟩
    refine EX.freeze hl.rv ?_
    have e : (OwnO.lst (rowT (fun x => wo x && (([Item.one (.attr "p"), .one (.attr "q")].length == 2) || ([Item.one (.attr "p"), .one (.attr "q")].length == 1 && x == "p"))) rp rq)).frozen = .list (rowT wo rp rq) := by
      simp [rowT, OwnO.frozen]
    rw [e]
    have hz : (rowT wo rp rq).length ≤ sizeLine := by
      refine Nat.le_trans (m := 2) ?_ (sz rfl)
      unfold rowT; cases wo "p" <;> cases wo "q" <;> simp
    refine EX.ret (d := .tup (rowT wo rp rq)) (EV.ifF (ET.cmp (EV.name (d := .val (.type "tuple")) ?_) (EV.bk X0) CMP.is) (EV.callF (EV.name (d := .val (.type "tuple")) ?_) (.cons (EV.name rfl) .nil) .nil KP.type (FN.tupleOf hz))) rfl
    · exact hl.tf
    · exact hl.tf
theorem ast_obj (X : Env1 w H) {wv rp rq : PD} {keep rec : Bool} {wo : Str → Bool} (Wn : Wan w H wv wo)
    (Tp : wo "p" = true → if rec then TTold w H wv keep n p rp else rp = p) (Tq : wo "q" = true → if rec then TTold w H wv keep n q rq else rq = q) : Ast w H wv keep rec (n + 6) (.obj k p q) (.tup (rowT wo rp rq)) :=
  FN.defK (names := astNames) astWc X.toEnv0 rfl (ast_binds4 X.toEnv0) (by decide) rfl (ast_body X Wn (FN.le (wanted_none X.toEnv0) (Nat.le_add_left 2 (n + 3))) Tp Tq)
theorem ast_obj2 (X : Env1 w H) {rp rq : PD} {keep : Bool}
    (Tp : TTold w H (.val .none) keep n p rp) (Tq : TTold w H (.val .none) keep n q rq) : Ast2 w H keep (n + 6) (.obj k p q) (.tup [rp, rq]) :=
  FN.defK (names := astNames) astWc X.toEnv0 rfl (ast_binds2 X.toEnv0) (by decide) rfl (ast_body (rec := true) X .none0 (FN.le (wanted_none X.toEnv0) (Nat.le_add_left 2 (n + 3))) (fun _ => Tp) (fun _ => Tq))
theorem ast_objF (X : Env1 w H) {wv rp rq : PD} {keep : Bool} {wo : Str → Bool} (Wn : Wan w H wv wo)
    (Tp : wo "p" = true → TTold w H wv keep n p rp) (Tq : wo "q" = true → TTold w H wv keep n q rq) : FN prg w (hkW w) H (n + 6) (.val (.ref 483)) [.obj k p q] (topKs2 keep wv) (.tup (rowT wo rp rq)) :=
  FN.defK (names := astNames) astWc X.toEnv0 rfl (ast_bindsF X.toEnv0) (by decide) rfl (ast_body (rec := true) X Wn (FN.le (wanted_some X.toEnv0) (Nat.le_add_left 2 (n + 3))) (fun h => Tp h) (fun h => Tq h))
theorem astuple_flat (X : Env1 w H) : FN prg w (hkW w) H (n + 6) (.val (.ref 483)) [.obj k p q] [("recurse", .val (.bool false))] (.tup [p, q]) :=
  FN.defK (names := astNames) astWc X.toEnv0 rfl (ast_bindsR X.toEnv0) (by decide) rfl (ast_body (rec := false) (rp := p) (rq := q) X .none0 (FN.le (wanted_none X.toEnv0) (Nat.le_add_left 2 (n + 3))) (fun _ => rfl) (fun _ => rfl))
end
end Mine
end

section -- D4
open PySem PySem.Calls PySem.W PyProof.Rows PySem.SeqAt PySem.MeetsSeq
set_option maxRecDepth 100000
set_option linter.unusedVariables false
namespace Mine
def isO : T → Bool
  | .o _ _ => true
  | _ => false
mutual
/-- the drawing told as a tuple -/
def tupT (keep : Bool) (k : Addr) : (Str → Bool) → T → PD
  | wo, .o a b => .tup (rowT wo (tupT keep k wo a) (tupT keep k wo b))
  | wo, .l ts => .list (tupE keep k wo ts)
  | wo, .u ts => if keep then .tup (tupE keep k wo ts) else .list (tupE keep k wo ts)
  | wo, .d ks ts => .dict (ks.zip (tupE keep k (fun _ => true) ts))
  | _, .n i => .int i
  | _, .t x => .str x
  | _, .z => .val .none
def tupE (keep : Bool) (k : Addr) : (Str → Bool) → List T → List PD
  | _, [] => []
  | wo, x :: r => (if isO x then tupT keep k wo x else laid k x) :: tupE keep k wo r
end
theorem tupE_map (keep : Bool) (k : Addr) (wo : Str → Bool) : ∀ ts, tupE keep k wo ts = ts.map fun x => if isO x then tupT keep k wo x else laid k x
  | [] => by simp [tupE]
  | x :: r => by simp [tupE, tupE_map keep k wo r]
theorem name_laid (k : Addr) : ∀ t, isO t = false → ∃ v, nameD (laid k t) = some v
  | .n i, _ => ⟨_, by rw [laid]; rfl⟩
  | .t x, _ => ⟨_, by rw [laid]; rfl⟩
  | .z, _ => ⟨_, by rw [laid]; rfl⟩
  | .l ts, _ => ⟨_, by rw [laid]; rfl⟩
  | .u ts, _ => ⟨_, by rw [laid]; rfl⟩
  | .o a b, h => nomatch h
  | .d ks ts, _ => ⟨_, by rw [laid]; rfl⟩
section
variable {w : World} {H : Heap} {n : Nat} {k : Addr} {p q d : PD} {F : Fm} {look : Look} {hk : PD → Int} {wv : PD} {keep : Bool} {wo : Str → Bool}
/-- astuple of all drawn objects up to a height -/
def AstTo (w : World) (H : Heap) (keep : Bool) (k : Addr) (m : Nat) : Prop :=
  ∀ a b, ht (.o a b) ≤ m → WT (.o a b) → (∀ wv wo, Wan w H wv wo → Ast w H wv keep true (10 * m + 9) (laid k (.o a b)) (tupT keep k wo (.o a b))) ∧ Ast2 w H keep (10 * m + 9) (laid k (.o a b)) (tupT keep k (fun _ => true) (.o a b))
theorem ttold_of (X : Env1 w H) {m : Nat} (IH : AstTo w H keep k m) (Wn : Wan w H wv wo) : ∀ t, ht t ≤ m → WT t → TTold w H wv keep (10 * m + 9) (laid k t) (tupT keep k wo t) := by
  have X0 := X.toEnv0
  have kid : ∀ ts : List T, htL ts + 1 ≤ m → WTL ts → ∀ (i : Nat) x r, (laidL k ts)[i]? = some x → (tupE keep k wo ts)[i]? = some r → Elm (Ast w H wv keep true (10 * m + 9 + 1)) x r := fun ts h1 h2 i x r hx hr => by
    rw [laidL_map, List.getElem?_map] at hx
    rw [tupE_map, List.getElem?_map] at hr
    obtain ⟨t, ht', rfl⟩ := Option.map_eq_some_iff.mp hx
    rw [ht'] at hr
    obtain rfl := Option.some.inj hr
    have hm := List.mem_of_getElem? ht'
    cases hO : isO t with
    | false =>
      obtain ⟨T, hT⟩ := name_laid k t hO
      exact .inl ⟨T, hT, by simp [hO]⟩
    | true =>
      match t, hO, hm with
      | .o a b, _, hm =>
        have e1 := ((IH a b (by have := htL_mem _ hm; omega) (WTL_mem h2 _ hm)).1 wv wo Wn).le (Nat.le_succ _)
        refine .inr ⟨k, laid k a, laid k b, by rw [laid], ?_⟩
        rw [laid] at e1
        exact e1
  have kid2 : ∀ ts : List T, htL ts + 1 ≤ m → WTL ts → ∀ (i : Nat) x r, (laidL k ts)[i]? = some x → (tupE keep k (fun _ => true) ts)[i]? = some r → Elm (Ast2 w H keep (10 * m + 9 + 1)) x r := fun ts h1 h2 i x r hx hr => by
    rw [laidL_map, List.getElem?_map] at hx
    rw [tupE_map, List.getElem?_map] at hr
    obtain ⟨t, ht', rfl⟩ := Option.map_eq_some_iff.mp hx
    rw [ht'] at hr
    obtain rfl := Option.some.inj hr
    have hm := List.mem_of_getElem? ht'
    cases hO : isO t with
    | false =>
      obtain ⟨T, hT⟩ := name_laid k t hO
      exact .inl ⟨T, hT, by simp [hO]⟩
    | true =>
      match t, hO, hm with
      | .o a b, _, hm =>
        have e1 := (IH a b (by have := htL_mem _ hm; omega) (WTL_mem h2 _ hm)).2.le (Nat.le_succ _)
        refine .inr ⟨k, laid k a, laid k b, by rw [laid], ?_⟩
        rw [laid] at e1
        exact e1
  intro t hh hw
  match t, hh, hw with
  | .n i, hh, hw => rw [tupT, laid]; exact .atom (isAtomic X0 rfl rfl (by kernel_rfl))
  | .t x, hh, hw => rw [tupT, laid]; exact .atom (isAtomic X0 rfl rfl (by kernel_rfl))
  | .z, hh, hw => rw [tupT, laid]; exact .atom (isAtomic_none X0)
  | .l ts, hh, hw =>
    rw [tupT, laid]
    rw [ht] at hh
    rw [WT] at hw
    exact .list (by rw [laidL_map, tupE_map, List.length_map, List.length_map]) (by rw [laidL_map, List.length_map]; exact Nat.le_trans hw.2 (sz rfl)) (kid ts hh hw.1)
  | .u ts, hh, hw =>
    rw [tupT, laid]
    rw [ht] at hh
    rw [WT] at hw
    exact .tup (by rw [laidL_map, tupE_map, List.length_map, List.length_map]) (by rw [laidL_map, List.length_map]; exact Nat.le_trans hw.2 (sz rfl)) (kid ts hh hw.1)
  | .o a b, hh, hw =>
    have := (IH a b hh hw).1 wv wo Wn
    rw [laid] at this ⊢
    exact .obj (FN.le this (by omega))
  | .d ks ts, hh, hw =>
    rw [tupT, laid]
    rw [ht] at hh
    rw [WT] at hw
    obtain ⟨w1, w2, w3⟩ := hw
    have la : ks.length = (laidL k ts).length := by rw [laidL_map, List.length_map]; exact w2
    have lb : ks.length = (tupE keep k (fun _ => true) ts).length := by rw [tupE_map, List.length_map]; exact w2
    have lk : ks.length ≤ 2 := ks_cases (P := fun ks _ => ks.length ≤ 2) (Nat.zero_le _) (fun _ _ _ => by simp) (fun _ _ _ _ => by simp) ks w3 _ la
    have kk := ks_keys false ks w3 _ lb
    have e0 : ks.map (keyT false) = ks := by
      have : keyT false = id := rfl
      rw [this, List.map_id]
    rw [e0] at kk
    refine .dict ?_ ?_ (ks_idx ks w3 _ la) kk fun i e o he ho => ?_
    · rw [List.length_zip, List.length_zip, ← la, ← lb]
    · rw [List.length_zip, ← la, Nat.min_self]; exact Nat.le_trans lk (sz rfl)
    · obtain ⟨e1, e2⟩ := zip_at he
      obtain ⟨o1, o2⟩ := zip_at ho
      rw [e1] at o1
      have o1 := Option.some.inj o1
      refine ⟨?_, kid2 ts hh w1 i _ _ e2 o2⟩
      have hk := K3_mem ks w3 _ (List.mem_of_getElem? e1)
      simp only [K3, List.mem_cons, List.not_mem_nil, or_false] at hk
      rcases hk with (h | h | h) | h <;> rw [h] at o1 ⊢ <;> exact ⟨_, rfl, o1.symm⟩
theorem ast_all (X : Env1 w H) : ∀ m, AstTo w H keep k m
  | 0 => fun a b hh _ => by rw [ht] at hh; omega
  | m + 1 => fun a b hh hw => by
    have IH := ast_all X m
    rw [ht] at hh
    rw [WT] at hw
    refine ⟨fun wv wo Wn => ?_, ?_⟩
    · rw [laid, tupT]
      exact FN.le (ast_obj (n := 10 * m + 9) (rec := true) X Wn (fun _ => ttold_of X IH Wn a (by omega) hw.1) (fun _ => ttold_of X IH Wn b (by omega) hw.2)) (by omega)
    · rw [laid, tupT]
      exact FN.le (ast_obj2 (n := 10 * m + 9) X (ttold_of X IH .none0 a (by omega) hw.1) (ttold_of X IH .none0 b (by omega) hw.2)) (by omega)
/-- astuple(one, filter=.., retain_collection_types=..) -/
theorem astuple_top (X : Env1 w H) (Wn : Wan w H wv wo) {a b : T} {m : Nat} (hh : ht (.o a b) ≤ m + 1) (hw : WT (.o a b)) : FN prg w (hkW w) H (10 * m + 15) (.val (.ref 483)) [laid k (.o a b)] (topKs2 keep wv) (tupT keep k wo (.o a b)) := by
  have IH := ast_all (k := k) (keep := keep) X m
  rw [ht] at hh
  rw [WT] at hw
  rw [laid, tupT]
  exact ast_objF (n := 10 * m + 9) X Wn (fun _ => ttold_of X IH Wn a (by omega) hw.1) (fun _ => ttold_of X IH Wn b (by omega) hw.2)
end
end Mine
end

section -- K1
open PySem PySem.Calls PySem.W PyProof.Rows PySem.SeqAt PySem.MeetsSeq
set_option maxRecDepth 100000
set_option linter.unusedVariables false
namespace Mine
section
variable {w : World} {H : Heap} {n : Nat} {k : Addr} {p q d : PD} {F : Fm} {look : Look} {hk : PD → Int}
theorem at_alias (X : Env0 (KK w) H) {y : Str} : AT prg w hk H (.attr y) "alias" (.str y) := AT.attrOf X.toKOk (by kernel_rfl) (by kernel_rfl) (a := _) (by rfl) (by kernel_rfl) fun L x h => by
  obtain ⟨ad, es, n, t1, t2, h1, h2, e1, e2, r⟩ := h
  exact ⟨ad, es, n, _, h1, h2, e2, rfl, .str _ _⟩
theorem at_init (X : Env0 (KK w) H) {y : Str} : AT prg w hk H (.attr y) "init" (.val (.bool true)) := AT.attrOf X.toKOk (by kernel_rfl) (by kernel_rfl) (a := _) (by rfl) (by kernel_rfl) fun L x h => by
  obtain ⟨ad, es, n, t1, t2, h1, h2, e1, e2, e3, e4, r⟩ := h
  exact ⟨ad, es, n, _, h1, h2, e4, rfl, .val _⟩
theorem at_kwonly (X : Env0 (KK w) H) {y : Str} : AT prg w hk H (.attr y) "kw_only" (.val (.bool false)) := AT.attrOf X.toKOk (by kernel_rfl) (by kernel_rfl) (a := _) (by rfl) (by kernel_rfl) fun L x h => by
  obtain ⟨ad, es, n, t1, t2, h1, h2, e1, e2, e3, e4, e5, r⟩ := h
  exact ⟨ad, es, n, _, h1, h2, e5, rfl, .val _⟩
theorem at_conv (X : Env0 (KK w) H) {y : Str} : AT prg w hk H (.attr y) "converter" (.val .none) := AT.attrOf X.toKOk (by kernel_rfl) (by kernel_rfl) (a := _) (by rfl) (by kernel_rfl) fun L x h => by
  obtain ⟨ad, es, n, t1, t2, h1, h2, e1, e2, e3, e4, e5, e6, r⟩ := h
  exact ⟨ad, es, n, _, h1, h2, e6, rfl, .val _⟩
theorem at_valid (X : Env0 (KK w) H) {y : Str} : AT prg w hk H (.attr y) "validator" (.val .none) := AT.attrOf X.toKOk (by kernel_rfl) (by kernel_rfl) (a := _) (by rfl) (by kernel_rfl) fun L x h => by
  obtain ⟨ad, es, n, t1, t2, h1, h2, e1, e2, e3, e4, e5, e6, e7, r⟩ := h
  exact ⟨ad, es, n, _, h1, h2, e7, rfl, .val _⟩
abbrev pqItems : List Item := [.one (.attr "p"), .one (.attr "q")]
theorem pq_mem {P : Item → Prop} (h : ∀ y : Str, y = "p" ∨ y = "q" → P (.one (.attr y))) : ∀ x ∈ pqItems, P x := fun x hx => by
  rcases List.mem_cons.mp hx with rfl | hx
  · exact h _ (.inl rfl)
  · obtain rfl := List.mem_singleton.mp hx; exact h _ (.inr rfl)
theorem compLook_upds {scope : Scope} {x y : Str} {a b : PD} (hx : (scope.names.lookup x == some .local) = true) (hy : (scope.names.lookup y == some .local) = true) : ∀ z d, compLook F scope look z = some d → upds (compLook F scope look) [x, y] [a, b] z = some d := fun z d e => by
  show upd (upd _ x a) y b z = some d
  have h1 := compLook_upd (d0 := a) hx z d e
  have hz : z ≠ y := fun q => by
    subst q
    unfold compLook seen at e
    rw [beq_iff_eq.mp hy] at e
    simp at e
  unfold upd at h1 ⊢
  rw [if_neg hz]; exact h1
/-- what a loop over attributes does to the names -/
def aLook (x : Item) (l : Look) : Look := match x with | .one d => upd l "a" d | _ => l
theorem handed_pq (X : Env0 (KK w) H) {u v : PD} : FN prg w (hkW w) H (n + 4) (.val (.ref 149)) [.tup [.attr "p", .attr "q"], .tup [u, v], .dict []] [] (.dict [(.str "p", u), (.str "q", v)]) := by
  refine FN.defK (names := ["attrs", "args", "kwargs"]) (ds := [.tup [.attr "p", .attr "q"], .tup [u, v], .dict []]) [] X rfl (BINDS.pos (len3 rfl fun a b c => by kernel_rfl)) (by decide) rfl ?_
  refine EX.assignCL (CP.list (items := pqItems) (f := aLook) (g := fun x => match x with | .one d => some d | _ => Option.none) (IT.tup (ds := [.attr "p", .attr "q"]) (EV.name rfl)) (sz rfl) (.of (by rfl)) (pq_mem fun y _ => TGI.one TG.name) (pq_mem fun y _ => compLook_upd (by rfl)) (pq_mem fun y _ => ⟨?_, EV.name rfl⟩)) ?_
  · exact ETS.one (ET.bool (EB.andT (ET.val (EV.attr (EV.name rfl) (at_init X)) (.bool _)) (EB.andT (b := true) (ET.not (b := false) (ET.val (EV.attr (EV.name rfl) (at_kwonly X)) (.bool _))) EB.andNil)))
  refine EX.ifF (ET.cmp (EV.callF (EV.bk X) (.cons (EV.name rfl) .nil) .nil KP.blt (FN.lenTup (by simp))) (EV.callF (EV.bk X) (.cons (EV.name (d := .list [.attr "p", .attr "q"]) rfl) .nil) .nil KP.blt (FN.lenList (by simp))) CMP.gtInt) (EX.nil ?_)
  refine EX.assignCD (CP.dict (items := zipI [.attr "p", .attr "q"] [u, v]) (f := fun x l => match x with | .tup [a, b] => upds l ["a", "value"] [a, b] | _ => l) (g := fun x => match x with | .tup [.attr y, b] => some (.str y, b) | _ => Option.none) (by omega)
    (IT.zip (EV.bk X) (EV.name (d := .list [.attr "p", .attr "q"]) rfl) (EV.name rfl) rfl) (sz rfl) (.of (by rfl)) (fun x hx => ?_) (fun x hx => ?_) (fun x hx => ?_) (fun i x k d hx hg => ?_)) ?_
  · rcases List.mem_cons.mp hx with rfl | hx
    · exact TGI.tup (xs := [("a", _), ("value", _)]) rfl (by intro x hx; simp at hx; rcases hx with rfl | rfl <;> exact .inl rfl)
    · obtain rfl := List.mem_singleton.mp hx
      exact TGI.tup (xs := [("a", _), ("value", _)]) rfl (by intro x hx; simp at hx; rcases hx with rfl | rfl <;> exact .inl rfl)
  · rcases List.mem_cons.mp hx with rfl | hx
    · exact compLook_upds (by rfl) (by rfl)
    · obtain rfl := List.mem_singleton.mp hx
      exact compLook_upds (by rfl) (by rfl)
  · rcases List.mem_cons.mp hx with rfl | hx
    · exact ⟨.nil, EV.attr (EV.name rfl) (at_alias X), EV.name rfl⟩
    · obtain rfl := List.mem_singleton.mp hx
      exact ⟨.nil, EV.attr (EV.name rfl) (at_alias X), EV.name rfl⟩
  · match i, hx with
    | 0, hx => obtain rfl := Option.some.inj hx; cases hg; exact KeyAt.of (by rfl)
    | 1, hx => obtain rfl := Option.some.inj hx; cases hg; exact KeyAt.of (by rfl)
  have e : (zipI [.attr "p", .attr "q"] [u, v]).filterMap (fun x => match x with | .tup [.attr y, b] => some (PD.str y, b) | _ => Option.none) = [(.str "p", u), (.str "q", v)] := rfl
  rw [e]
  refine EX.assignCL (CP.list (items := pqItems) (f := aLook) (g := fun x => match x with | .one (.attr y) => some (.str y) | _ => Option.none) (IT.tup (ds := [.attr "p", .attr "q"]) (EV.name rfl)) (sz rfl) (.of (by rfl)) (pq_mem fun y _ => TGI.one TG.name) (pq_mem fun y _ => compLook_upd (by rfl)) (pq_mem fun y _ => ⟨?_, EV.attr (EV.name rfl) (at_alias X)⟩)) ?_
  · exact ETS.one (ET.val (EV.attr (EV.name rfl) (at_init X)) (.bool _))
  refine .step (EX1.for (items := []) (f := fun _ l => l) (fun _ l o => l "attrs" = some (.tup [.attr "p", .attr "q"]) ∧ l "handed" = some (.dict [(.str "p", u), (.str "q", v)]) ∧ o = []) (IT.items (xs := []) (EV.name rfl) (sz rfl)) ⟨rfl, rfl, rfl⟩ (by rintro i l o ⟨_, _, rfl⟩; rfl) (fun x hx => nomatch hx) (fun i x l o hx => by simp at hx) ?_)
  rintro l o ⟨ha, hh, rfl⟩
  refine .step (EX1.for (items := pqItems) (f := aLook) (fun _ l o => l "handed" = some (.dict [(.str "p", u), (.str "q", v)]) ∧ o = []) (IT.tup (ds := [.attr "p", .attr "q"]) (EV.name ha)) ⟨hh, rfl⟩ (by rintro i l o ⟨_, rfl⟩; rfl) (pq_mem fun y _ => TGI.one TG.name) (fun i x l o hx hJ => ?_) ?_)
  · obtain ⟨hl, rfl⟩ := hJ
    have hl2 : ∀ y : PD, upd l "a" y "handed" = some (.dict [(.str "p", u), (.str "q", v)]) := fun y => hl
    match i, hx with
    | 0, hx =>
      obtain rfl := Option.some.inj hx
      exact EX.ifF (ET.bool (EB.andT (ET.val (EV.attr (EV.name rfl) (at_init X)) (.bool _)) (EB.andF (ET.cmp (EV.attr (EV.name rfl) (at_alias X)) (EV.name (hl2 _)) (CMP.notInD (i := 0) (by omega) (.of (by rfl)) rfl))))) (EX.nil (EX.nil ⟨hl2 _, rfl⟩))
    | 1, hx =>
      obtain rfl := Option.some.inj hx
      exact EX.ifF (ET.bool (EB.andT (ET.val (EV.attr (EV.name rfl) (at_init X)) (.bool _)) (EB.andF (ET.cmp (EV.attr (EV.name rfl) (at_alias X)) (EV.name (hl2 _)) (CMP.notInD (i := 1) (by omega) (.of (by rfl)) rfl))))) (EX.nil (EX.nil ⟨hl2 _, rfl⟩))
  · rintro l o ⟨hh, rfl⟩
    exact EX.ret (EV.name hh) rfl
end
end Mine
end

section -- K2
open PySem PySem.Calls PySem.W PyProof.Rows PySem.SeqAt PySem.MeetsSeq
set_option maxRecDepth 100000
set_option linter.unusedVariables false
namespace Mine
section
variable {prog : Program} {w : World} {H : Heap} {n m : Nat} {F : Fm} {wc : List Str} {look : Look} {own : Own} {A : Around} {B : Bs} {s s' s₁ : Shared} {L L' L₂ Lw : Led} {env : Env} {E : Value → Shared → Prop} {K : Frag} {G : Goal} {hk : PD → Int}
/-- an own table, wherever it is had from, takes a new key -/
theorem EX.putItemE {be : Expr} {pos pos' : Pos} {e idx : Expr} {d k : PD} {D : Addr} {es : List (PD × PD)} {rest : List Stmt} (hn : 1 ≤ n) (h : EV prog w (hkW w) H n F look e d) (hb : EV prog w (hkW w) H n F look be (.val (.ref D))) (hi : EV prog w (hkW w) H n F look idx k) (hj : KeyAt es k .none) (hz : es.length ≤ sizeLine)
    (hrest : EX prog w (hkW w) H n F wc look ((D, .dct (es ++ [(k, d)])) :: own) rest G)
    (hs : ∀ env, swapsWith e (some (.Subscript be idx pos')) pos.line env = pure false := by intro _; rfl) :
    EX prog w (hkW w) H n F wc look ((D, .dct es) :: own) (.Assign [.Subscript be idx pos'] e pos :: rest) G := fun A B s L env ok st => by
  refine wpAny_execs_cons (wpAny_Assign_Subscript (h.use ok st.pre fun v s₁ q₁ i₁ p₁ => ?_) (hs env))
  have st₁ := st.step q₁
  refine hb.use ok st₁.pre fun o s₂ q₂ i₂ p₂ => ?_
  have st₂ := st₁.step q₂
  cases i₂
  refine hi.use ok st₂.pre fun kv s₃ q₃ i₃ p₃ => ?_
  have st₃ := st₂.step q₃
  obtain ⟨⟨ds, ep, hD, ies⟩, _, nl, _⟩ := st₃.ownAt _ (.head _)
  have hT : s₃.TypeIs (.ref D) "dict" := ⟨_, hD, rfl⟩
  unfold setItem
  try with_reducible refine wpAny_holding ?_
  refine wpAny_bind (wpAny_sequenceKey hT (by decide) ?_)
  refine wpAny_bind (wpAny_callSpecial?_slot (name := Str.ofString "__setitem__") hT slot_dict_setitem
    (wpAny_call_entry slot_dict_setitem hT entry_dict_setitem ?_ (args_dict_setitem _ _ _)))
  show wpAny _ _ (Builtin.Dict.notOrdered "__setitem__" ⟨[.ref D, kv, v], []⟩ >>= _) _ _ s₃
  refine wpAny_bind (wpAny_notOrdered_dict hT ?_)
  show wpAny _ _ (dictSet D kv v >>= _) _ _ s₃
  refine wpAny_bind (set_pd st₃.pre.led (ok.units1 hn) hD ies i₃ (i₁.mono fun _ _ e => .inl (.inl e)) hj hz nl fun h' tk hs' ho => ?_)
  exact wpAny_pure ⟨.none, rfl, wpAny_pure (hrest A B _ _ env ok (st₃.own1 hs' ho))⟩
/-- a new object goes into an own attribute -/
theorem EX.setAttrNew {x : Str} {px apos pos : Pos} {name : Str} {e : Expr} {a C D : Addr} {x0 : OwnO} {xs : List (Str × PD)} {rest : List Stmt} (X : Env0 K H) (hx : look x = some (.val (.ref a))) (h : EN prog w (hkW w) H n F look e x0) (hC : setOk K C name = true)
    (k : ∀ D', EX prog w (hkW w) H n F wc look ((D, .dct (sEs (putS name (.val (.ref D')) xs))) :: (a, .ins C D) :: (D', x0) :: own) rest G) (hz : xs.length ≤ 900 := by exact Nat.le_of_ble_eq_true rfl)
    (hs : ∀ env, swapsWith e (some (.Attribute (.Name x px) name apos)) pos.line env = pure false := by intro _; rfl) (hdb : (x == ("__debug__" : Str)) = false := by rfl) :
    EX prog w (hkW w) H n F wc look ((D, .dct (sEs xs)) :: (a, .ins C D) :: own) (.Assign [.Attribute (.Name x px) name apos] e pos :: rest) G := .step fun A B s L env ok st =>
  plainObj_wpAny_Assign_Attribute (wpAny_mono (h A s L env ok st.pre) (fun v s₁ e => by
    obtain ⟨D', rfl, q₁, hD', ho⟩ := e
    have st₁ := st.addOwn q₁ hD' (ho L)
    have st₂ := st₁.perm (own' := (D, .dct (sEs xs)) :: (a, .ins C D) :: (D', x0) :: own) ((List.Perm.swap _ _ _).trans (.cons _ (.swap _ _ _)))
    refine (EV.name (prog := prog) (w := w) (n := n) hx hdb).use ok st₂.pre fun o s₂ q₂ i₂ p₂ => ?_
    cases i₂
    exact St.setAttr X hC (st₂.step q₂) (.val _) hz fun s₃ st₃ => ⟨_, _, _, k D', st₃⟩) fun _ _ f => f.elim) (hs env)
theorem KP.kind {k : Addr} : KP prog w hk H (.kind k) := fun A s L v x l i => by
  cases i with
  | kind c =>
    obtain ⟨kd, es, n, ma, mo, mn, aa, ao, an, ea, eo, en, a1, a2, a3, a4, h1, _⟩ := c
    unfold keeperOf
    refine wpAny_bind (wpAny_load (l _ _ h1).1 ?_)
    exact wpAny_pure rfl
theorem IsAll.three {vs : List Value} {a b c : PD} (h : IsAll hk L vs [a, b, c]) : ∃ u v x, vs = [u, v, x] ∧ Is hk L u a ∧ Is hk L v b ∧ Is hk L x c := by
  cases h with
  | cons h1 h => cases h with
    | cons h2 h => cases h with
      | cons h3 h => cases h; exact ⟨_, _, _, rfl, h1, h2, h3⟩
/-- self, and the rest in a tuple and a table -/
theorem BINDS.star {fd : FuncData} {n1 n2 n3 : Str} {d1 d2 d3 : PD} {g : Value → Value → Value → Addr → Sem (List (Str × Value))} (X : KOk K H)
    (h1 : ∀ a b c : Value, peekA K ⟨prog, w.params⟩ (bindArgs fd ⟨[a, b, c], []⟩) = some ({ cls := .type "tuple", data := .seq #[b, c] }, g a b c))
    (h2 : ∀ a b c x, peekA K ⟨prog, w.params⟩ (g a b c x) = some ({ cls := .type "dict", data := .dict #[] }, fun y => pure [(n1, a), (n2, .ref x), (n3, .ref y)])) :
    BINDS prog w hk H fd [d1, d2, d3] [] [n1, n2, n3] [d1, .tup [d2, d3], .dict []] := fun A s L vs kvs inv led i1 i2 i3 => by
  obtain rfl := kvs_nil i3
  obtain ⟨u1, u2, u3, rfl, j1, j2, j3⟩ := i1.three
  have q1 : Pure H s { s with heap := s.heap.push { cls := .type "tuple", data := .seq #[u2, u3] } } := .push inv _
  have q2 : Pure H { s with heap := s.heap.push { cls := .type "tuple", data := .seq #[u2, u3] } } { s with heap := (s.heap.push { cls := .type "tuple", data := .seq #[u2, u3] }).push { cls := .type "dict", data := .dict #[] } } := .push q1.inv _
  refine wp_peekA (X.in inv) _ _ (h1 _ _ _) (wp_peekA (s := { s with heap := s.heap.push { cls := .type "tuple", data := .seq #[u2, u3] } }) (X.in q1.inv) _ _ (h2 _ _ _ _) (wpAny_pure ⟨q1.trans q2, rfl, ?_⟩))
  refine .cons (j1.mono fun _ _ => .inl) (.cons (.tup (n := 0) (vs := #[u2, u3]) (.inr (Fresh.right q2.keep (Fresh.push rfl ⟨.inl (by simp), inv.new (inv.none (get_size _))⟩))) rfl rfl (.cons (j2.mono fun _ _ => .inl) (.cons (j3.mono fun _ _ => .inl) .nil))) (.cons (.dict (n := 0) (es := #[]) (.inr (Fresh.left q1.keep (Fresh.push rfl ⟨.inl (by simp), q1.inv.new (q1.inv.none (get_size _))⟩))) ⟨rfl, rfl, rfl⟩ rfl .nil) .nil))
/-- a frozen object's attribute -/
theorem AT.inst {C : Addr} {xs : List (Str × PD)} {name : Str} {a : Option Value} {r : PD} {i : Nat} (X : KOk K H) (hg : plainGet K C name = true) (hh : hasDictIn K C = true) (ha : findIn K (.ref C) name = some a) (hn : noGet K a = true)
    (hx : xs.find? (fun p => p.1 == name) = some (name, r)) (hr : ∀ (L : Led) (v : Value), Is hk L v r → handedIn v = true) : AT prog w hk H (.inst C (sEs xs)) name r := fun A s L v hA inv led i => by
  cases i with
  | inst h1 h2 =>
    cases h2 with
    | @dict dx o ds ep _ g1 g2 g3 g4 =>
      have eo : o = dictOf ds.toList ep := by
        obtain ⟨oc, od, oda, osl⟩ := o
        obtain ⟨e1, e2, e3⟩ := g2
        dsimp only at e1 e2 e3 g3
        subst e1 e2 e3 g3
        simp
      have find : ∀ (l : List DictEntry) (ys : List (Str × PD)), IsEs hk L l (sEs ys) → ys.find? (fun p => p.1 == name) = some (name, r) → ∃ v, getL name l = some (some v) ∧ Is hk L v r := by
        intro l
        induction l with
        | nil => intro ys h hf; cases ys with
          | nil => cases hf
          | cons => cases h
        | cons e l ih =>
          intro ys h hf
          cases ys with
          | nil => cases h
          | cons y ys =>
            obtain ⟨eh, ek, ev⟩ := e
            cases h with
            | cons h1 h2 h3 h4 =>
              have h2 : Is hk L ek (.str y.1) := h2
              cases h2 with
              | str _ t =>
                rw [List.find?_cons] at hf
                have e1 : (Value.str y.1 t).isStr name = (y.1 == name) := rfl
                cases q : y.1 == name with
                | true =>
                  rw [q] at hf
                  cases hf
                  refine ⟨ev, ?_, h3⟩
                  unfold getL
                  rw [List.find?_cons, e1]
                  simp
                | false =>
                  rw [q] at hf
                  obtain ⟨v, hv, iv⟩ := ih ys h4 hf
                  refine ⟨v, ?_, iv⟩
                  unfold getL at hv ⊢
                  rw [List.find?_cons, e1, q]
                  dsimp only
                  cases hq : l.find? (fun x => x.key.isStr name) with
                  | some e' => rw [hq] at hv; exact hv
                  | none => rw [hq] at hv; dsimp only at hv; split at hv <;> cases hv
      obtain ⟨v, hv, iv⟩ := find _ _ g4 hx
      exact AT.get (r := r) X hg hh ha hn inv led h1 (eo ▸ g1) hv (hr L v iv) (Pure.post (.toks inv _) iv)
end
end Mine
end

section -- K3
open PySem PySem.Calls PySem.W PyProof.Rows PySem.SeqAt PySem.MeetsSeq
set_option maxRecDepth 100000
set_option linter.unusedVariables false
namespace Mine
section
variable {prog : Program} {w : World} {H : Heap} {n m : Nat} {F : Fm} {wc : List Str} {look : Look} {own : Own} {A : Around} {B : Bs} {s s' s₁ : Shared} {L L' L₂ Lw : Led} {env : Env} {E : Value → Shared → Prop} {K : Frag} {G : Goal} {hk : PD → Int} {k : Addr} {u v : PD}
theorem EN.dictE {pos : Pos} : EN prog w hk H n F look (.Dict [] [] pos) (.dct []) := fun A s L env ok p =>
  wpAny_Dict_empty ⟨_, rfl, .push p.inv _, get_size _, fun L' => ⟨_, _, Heap.get?_push_size _ rfl, .nil⟩⟩
/-- an object is frozen, and named so -/
theorem EX.freezeI {ss : List Stmt} {x : Str} {a C D : Addr} {xs : List (Str × PD)} (hx : look x = some (.val (.ref a))) (h : EX prog w hk H n F wc (upd look x (.inst C (sEs xs))) own ss G) : EX prog w hk H n F wc look ((D, .dct (sEs xs)) :: (a, .ins C D) :: own) ss G := fun A B s L env ok st => by
  obtain ⟨L', st', i, _⟩ := st.freezeInst
  refine h A B s L' env ok { st' with pre := { st'.pre with view := fun z d' e => ?_ } }
  unfold upd at e
  by_cases hz : z = x
  · rw [if_pos hz] at e; cases e
    subst hz
    obtain ⟨v, r, iv⟩ := st'.pre.view _ _ hx
    cases iv
    exact ⟨_, r, i⟩
  · rw [if_neg hz] at e; exact st'.pre.view z d' e
theorem Is.toObj {x : Value} {hd : Addr} (i : Is hk L x (.inst madeC (sEs [("kind", .kind k), ("held", .val (.ref hd))]))) (j : Is hk L (.ref hd) (.dict [(.str "p", u), (.str "q", v)])) : Is hk L x (.obj k u v) := by
  cases i with
  | inst h1 h2 =>
    cases h2 with
    | @dict dx o ds ep _ g1 g2 g3 g4 =>
      obtain ⟨oc, od, oda, osl⟩ := o
      obtain ⟨e1, e2, e3⟩ := g2
      dsimp only at e1 e2 e3 g3
      subst e1 e2 e3 g3
      obtain ⟨ds⟩ := ds
      have g4 : IsEs hk L ds (sEs [("kind", .kind k), ("held", .val (.ref hd))]) := g4
      cases g4 with
      | @cons e1 ds1 _ _ a1 a2 a3 a4 =>
        have a4 : IsEs hk L ds1 (sEs [("held", .val (.ref hd))]) := a4
        cases a4 with
        | @cons e2 ds2 _ _ b1 b2 b3 b4 =>
          have b4 : IsEs hk L ds2 [] := b4
          cases b4
          obtain ⟨h1', k1, v1⟩ := e1
          obtain ⟨h2', k2, v2⟩ := e2
          have a2 : Is hk L k1 (.str "kind") := a2
          have b2 : Is hk L k2 (.str "held") := b2
          have a3 : Is hk L v1 (.kind k) := a3
          have b3 : Is hk L v2 (.val (.ref hd)) := b3
          cases a2
          cases b2
          cases b3
          cases a3 with
          | kind kk => exact .obj h1 g1 j kk
/-- the table that an object holds is frozen -/
theorem EX.freezeO {ss : List Stmt} {x : Str} {hd : Addr} (hx : look x = some (.inst madeC (sEs [("kind", .kind k), ("held", .val (.ref hd))]))) (h : EX prog w hk H n F wc (upd look x (.obj k u v)) own ss G) : EX prog w hk H n F wc look ((hd, .dct [(.str "p", u), (.str "q", v)]) :: own) ss G := fun A B s L env ok st => by
  obtain ⟨L', st', i, _⟩ := st.freeze
  refine h A B s L' env ok { st' with pre := { st'.pre with view := fun z d' e => ?_ } }
  unfold upd at e
  by_cases hz : z = x
  · rw [if_pos hz] at e; cases e
    subst hz
    obtain ⟨v, r, iv⟩ := st'.pre.view _ _ hx
    exact ⟨_, r, iv.toObj i⟩
  · rw [if_neg hz] at e; exact st'.pre.view z d' e
/-- as FN.defK, of the code itself -/
theorem FC.defK {a : Addr} {ps : List PD} {ks : List (Str × PD)} {names : List Str} {ds : List PD} {d : PD} (wc : List Str) (X : Env0 K H) (hok : defOk K a = true) (hb : BINDS prog w hk H (fdOf K a) ps ks names ds)
    (hn : names.Nodup) (hkind : (names.all fun x => (fdOf K a).scope.names.lookup x == some .local || (fdOf K a).scope.names.lookup x == some .cell) = true)
    (h : EX prog w hk H n ⟨(fdOf K a).scope, some (codeOf (fdOf K a)), .none⟩ wc (fun x => (names.zip ds).lookup x) [] (bodyOf (fdOf K a)) (Rets d)) {vs : List Value} {kvs : List (Str × Value)} (ok : Ok (n + 1) A) (inv : Inv H s.heap) (led : Holds H L s.heap)
    (i1 : IsAll hk L vs ps) (i2 : IsAll hk L (kvs.map (·.2)) (ks.map (·.2))) (i3 : kvs.map (·.1) = ks.map (·.1)) :
    codeAny (model prog w) A (.call (.ref a) ⟨vs, kvs⟩) (fun r s' => match r with | .ok (.ret v) => Post hk H L s d v s' | .ok _ => False | .error _ => False) s := by
  have D := DefAt.ofK X.at_ hok
  obtain ⟨o, ho, hc, hd⟩ := D.obj
  obtain ⟨oc, vc, tc, e1, e2, e3, e4, e5⟩ := D.code
  have hkind' : ∀ x ∈ names, (fdOf K a).scope.names.lookup x = some .local ∨ (fdOf K a).scope.names.lookup x = some .cell := fun x hx => by have := List.all_eq_true.mp hkind x hx; simpa using this
  refine codeAny_call_function ok.room (inv.get ho hc) hd D.co D.gen D.body ⟨_, oc, vc, tc, e1, inv.get e2 e3, e4, e5⟩ ?_
  refine wpAny_mono (hb A.in1 s L vs kvs inv led i1 i2 i3) (fun b s₁ hb₁ => ?_) fun _ _ f => f.elim
  obtain ⟨q, hbn, hbi⟩ := hb₁
  rw [D.clo]
  refine wpAny_newFunctionEnv_cells D.kind (fun x hx => ?_) fun env he s' ic => ⟨?_, codeAny_func ?_⟩
  · have hxn : x.1 ∈ names := hbn ▸ List.mem_map.mpr ⟨x, hx, rfl⟩
    refine (hkind' _ hxn).imp id fun e => ⟨e, cellsFrom_has _ _ _ _ (.inl (mem_of_lookup e))⟩
  · obtain ⟨h', tk, rfl, hkp⟩ := ic.done
    exact q.inv.lim.keeps hkp
  · have st := FN.begin (q := Option.none) (wc := wc) D.kind D.free D.glob D.blt e1 q.inv ((led.keep q.keep).or .fresh) hbn hbi hn hkind' (by subst he; exact ⟨⟨rfl, rfl, rfl, rfl, rfl⟩, rfl⟩) ic (fun z e => nomatch e)
    refine wpAny_mono (h (A.deeper env) _ _ _ env (ok.deeper env) st) (fun f s₂ e => ?_) fun _ _ f => f.elim
    cases f with
    | next => obtain ⟨_, _, _, e, _⟩ := e; exact e.elim
    | cont => obtain ⟨_, _, _, e, _⟩ := e; exact e.elim
    | brk => exact e.elim
    | ret v =>
      obtain ⟨q₂, i⟩ := e.post fun _ => id
      exact ⟨q.trans q₂, i.step q.keep q₂.keep⟩
/-- a kind is called -/
theorem FN.kindCall {f : Addr} {r : PD} {ps : List PD} {names : List Str} {ds : List PD} (wc : List Str) (X : Env0 K H) (hs : findIn K (.ref kindC) "__call__" = some (some (.ref f))) (hf : isFn K (.ref f) = true) (hfn : fnIn K f = true)
    (hok : defOk K f = true) (hb : BINDS prog w hk H (fdOf K f) (.kind k :: ps) [] names ds) (hn : names.Nodup) (hkind : (names.all fun x => (fdOf K f).scope.names.lookup x == some .local || (fdOf K f).scope.names.lookup x == some .cell) = true)
    (h : EX prog w hk H n ⟨(fdOf K f).scope, some (codeOf (fdOf K f)), .none⟩ wc (fun x => (names.zip ds).lookup x) [] (bodyOf (fdOf K f)) (Rets r)) : FN prog w hk H (n + 1) (.kind k) ps [] r := fun A s L fv vs kvs ok inv led iv i1 i2 i3 => by
  cases iv with
  | kind c =>
    obtain rfl := kvs_nil i3
    have c' := c
    obtain ⟨kd, es, nn, ma, mo, mn, aa, ao, an, ea, eo, en, a1, a2, a3, a4, h1, h2, _⟩ := c
    have I : InstAt s.heap k (instObj kindC kd) kindC (some (dictOf es nn)) := inst_of led h1 h2
    exact wpAny_call (kco_code (X.in inv) I rfl hs hf hfn (FC.defK wc X hok hb hn hkind h ok inv led (.cons (.kind c') i1) .nil rfl))
end
end Mine
end

section -- K4
open PySem PySem.Calls PySem.W PyProof.Rows PySem.SeqAt PySem.MeetsSeq
set_option maxRecDepth 100000
set_option linter.unusedVariables false
namespace Mine
section
variable {w : World} {H : Heap} {n : Nat} {k : Addr} {u v : PD} {F : Fm} {look : Look} {hk : PD → Int}
abbrev heldEs (k hd : Addr) : List (Str × PD) := [("kind", .kind k), ("held", .val (.ref hd))]
theorem made_new (X : Env0 (KK w) H) : FNO prg w (hkW w) H (n + 2) (.val (.ref 206)) [.kind k] [] (fun d o => ∃ x D hd, d = .val (.ref x) ∧ o = [(D, .dct (sEs (heldEs k hd))), (x, .ins madeC D), (hd, .dct [])]) := by
  refine FNO.cls (fI := 163) (names := ["self", "kind"]) (ds := [.kind k]) [] X (by kernel_rfl) rfl (fun x => BINDS.pos (len2 rfl fun a b => by kernel_rfl)) (by decide) rfl fun x D => ?_
  refine EX.setAttr X rfl (EV.name rfl) (by kernel_rfl) ?_
  refine EX.setAttrNew X rfl EN.dictE (by kernel_rfl) fun hd => EX.nil ?_
  exact ⟨x, D, hd, rfl, rfl⟩
/-- what the loop of __call__ leans on -/
structure CallL (l : Look) (k : Addr) (u v : PD) (hd : Addr) : Prop where
  self : l "self" = some (.kind k)
  handed : l "handed" = some (.dict [(.str "p", u), (.str "q", v)])
  inst : l "inst" = some (.inst madeC (sEs (heldEs k hd)))
theorem CallL.upd {l : Look} {hd : Addr} (h : CallL l k u v hd) {x : Str} {d0 : PD} (hx : x ∉ (["self", "handed", "inst"] : List Str)) : CallL (upd l x d0) k u v hd := by
  have ne : ∀ y ∈ (["self", "handed", "inst"] : List Str), Mine.upd l x d0 y = l y := fun y hy => by
    unfold Mine.upd
    exact if_neg (by intro e; subst e; exact hx hy)
  exact ⟨(ne _ (by simp)).trans h.self, (ne _ (by simp)).trans h.handed, (ne _ (by simp)).trans h.inst⟩
noncomputable abbrev callF (w : World) : Fm := ⟨(fdOf (KK w) 132).scope, some (codeOf (fdOf (KK w) 132)), .none⟩
theorem call_turn (X : Env0 (KK w) H) {l : Look} {hd : Addr} {y : Str} {z : PD} {i : Nat} {es : List (PD × PD)} {G : Goal} (hl : CallL l k u v hd) (hz : notRefD z = true) (hi : KeyAt [(.str "p", u), (.str "q", v)] (.str y) (some i) ∧ ∃ k', ([(.str "p", u), (.str "q", v)] : List (PD × PD))[i]? = some (k', z)) (hj : KeyAt es (.str y) .none) (hze : es.length ≤ sizeLine)
    (hN : ∀ l', CallL l' k u v hd → G.N l' [(hd, .dct (es ++ [(.str y, z)]))]) : EX prg w (hkW w) H (n + 3) (callF w) [] (upd l "a" (.attr y)) [(hd, .dct es)] (forBody (bodyOf (fdOf (KK w) 132))) G := by
  have h1 : CallL (upd l "a" (.attr y)) k u v hd := hl.upd (by decide)
  refine EX.ifF (ET.bool (EB.andF (ET.not (b := true) (ET.val (EV.attr (EV.name rfl) (at_init X)) (.bool _))))) (EX.nil ?_)
  refine EX.assign (d1 := z) (EV.ifT (ET.val (EV.attr (EV.name rfl) (at_init X)) (.bool _)) (EV.sub (EV.name h1.handed) (EV.attr (EV.name rfl) (at_alias X)) (GI.dict (by omega) hi.1 hi.2.choose_spec))) ?_
  have h2 : CallL (upd (upd l "a" (.attr y)) "value" z) k u v hd := h1.upd (by decide)
  refine EX.ifF (ET.bool (EB.andF (ET.cmp (EV.name rfl) (EV.gk X) (CMP.isTop X.toKOk (a := 70) (by rfl) rfl (by rfl) hz)))) ?_
  refine EX.ifF (ET.cmp (EV.name rfl) (EV.gk X) (CMP.isTop X.toKOk (a := 70) (by rfl) rfl (by rfl) hz)) (EX.nil (EX.nil ?_))
  refine EX.ifF (ET.bool (EB.andF (ET.cmp (EV.attr (EV.name rfl) (at_conv X)) EV.none (CMP.notNone' rfl)))) ?_
  refine EX.ifF (ET.cmp (EV.attr (EV.name rfl) (at_conv X)) EV.none (CMP.notNone' rfl)) (EX.nil (EX.nil ?_))
  refine EX.putItemE (by omega) (EV.name rfl) (EV.attr (EV.name h2.inst) (AT.inst (i := 0) X.toKOk (by kernel_rfl) (by kernel_rfl) (a := _) (by rfl) (by kernel_rfl) (by rfl) (fun L v i => by cases i; rfl))) (EV.attrNm X rfl) hj hze (EX.nil ?_)
  exact hN _ h2
end
end Mine
end

section -- K5
open PySem PySem.Calls PySem.W PyProof.Rows PySem.SeqAt PySem.MeetsSeq
set_option maxRecDepth 100000
set_option linter.unusedVariables false
namespace Mine
section
variable {prog : Program} {w : World} {H : Heap} {K : Frag} {hk : PD → Int}
theorem KP.cls {a : Addr} (X : KOk K H) (h : makesIn K a = true) : KP prog w hk H (.val (.ref a)) := fun A s L v inv led i => by
  cases i
  have Y := makes_of (M := model prog w) (X.in inv) h
  obtain ⟨oc, od, cd, sl, ho, _⟩ := Y.obj
  unfold keeperOf
  exact wpAny_bind (wpAny_load ho (wpAny_bind (Y.call.here (wpAny_pure rfl))))
end
section
variable {w : World} {H : Heap} {n : Nat} {k : Addr} {u v : PD} {F : Fm} {look : Look} {hk : PD → Int}
def pk {α : Type} (d : Sem α) : Option (Obj × (Addr → Sem α)) → Addr → Sem α
  | some (_, g) => g
  | Option.none => fun _ => d
/-- made(u, v) -/
theorem make_obj (X : Env0 (KK w) H) (hu : notRefD u = true) (hv : notRefD v = true) : FN prg w (hkW w) H (n + 8) (.kind k) [u, v] [] (.obj k u v) := by
  refine FN.kindCall (f := 132) (names := ["self", "args", "kwargs"]) (ds := [.kind k, .tup [u, v], .dict []]) [] X (by rfl) (by kernel_rfl) (by kernel_rfl) rfl (BINDS.star (g := fun a b c => pk (pure []) (peekA (KK w) ⟨prg, w.params⟩ (bindArgs (fdOf (KK w) 132) ⟨[a, b, c], []⟩))) X.toKOk (fun a b c => by kernel_rfl) (fun a b c x => by kernel_rfl)) (by decide) rfl ?_
  refine EX.assign (d1 := .dict [(.str "p", u), (.str "q", v)]) (EV.callF (EV.gk X) (.cons (EV.attr (EV.name rfl) (AT.kindAttrs X.toKOk (by kernel_rfl) (by kernel_rfl) (a := _) (by rfl) (by kernel_rfl))) (.cons (EV.name rfl) (.cons (EV.name rfl) .nil))) .nil (KP.Kk X) (FN.le (handed_pq (n := 0) X) (by omega))) ?_
  refine EX.assignN (EVN.call (EV.gk X) (.cons (EV.name (d := .kind k) rfl) .nil) .nil ?_ (made_new X)) fun d o hK => ?_
  · exact KP.cls X.toKOk (by kernel_rfl)
  obtain ⟨x, D, hd, rfl, rfl⟩ := hK
  refine EX.freezeI (x := "inst") rfl ?_
  refine .step (EX1.for (items := pqItems) (f := aLook) (fun i l o => CallL l k u v hd ∧ o = [(hd, .dct ((if i = 0 then [] else [(.str "p", u)]) ++ if i = 2 then [(.str "q", v)] else []))]) (IT.tup (ds := [.attr "p", .attr "q"]) (EV.attr (EV.name (d := .kind k) rfl) (AT.kindAttrs X.toKOk (by kernel_rfl) (by kernel_rfl) (a := _) (by rfl) (by kernel_rfl)))) ?_ ?_ (pq_mem fun y _ => TGI.one TG.name) (fun i x l o hx hJ => ?_) ?_)
  · exact ⟨⟨rfl, rfl, rfl⟩, rfl⟩
  · rintro i l o ⟨_, rfl⟩; rfl
  · obtain ⟨hl, rfl⟩ := hJ
    match i, hx with
    | 0, hx =>
      obtain rfl := Option.some.inj hx
      exact call_turn (n := n + 4) X hl hu (i := 0) ⟨.of (by rfl), _, rfl⟩ (.of (by rfl)) (sz rfl) fun l' h' => ⟨h', rfl⟩
    | 1, hx =>
      obtain rfl := Option.some.inj hx
      exact call_turn (n := n + 4) X hl hv (i := 1) ⟨.of (by rfl), _, rfl⟩ (.of (by rfl)) (sz rfl) fun l' h' => ⟨h', rfl⟩
  · rintro l o ⟨hl, rfl⟩
    refine EX.ifT (ET.cmp (EV.gk X) EV.bool CMP.is) ?_
    refine .step (EX1.for (items := pqItems) (f := aLook) (fun i l o => l "inst" = some (.inst madeC (sEs (heldEs k hd))) ∧ o = [(hd, .dct [(.str "p", u), (.str "q", v)])]) (IT.tup (ds := [.attr "p", .attr "q"]) (EV.attr (EV.name hl.self) (AT.kindAttrs X.toKOk (by kernel_rfl) (by kernel_rfl) (a := _) (by rfl) (by kernel_rfl)))) ⟨hl.inst, rfl⟩ (by rintro i l o ⟨_, rfl⟩; rfl) (pq_mem fun y _ => TGI.one TG.name) (fun i x l o hx hJ => ?_) ?_)
    · obtain ⟨hi, rfl⟩ := hJ
      match i, hx with
      | 0, hx => obtain rfl := Option.some.inj hx; exact EX.ifF (ET.bool (EB.andF (ET.val (EV.attr (EV.name rfl) (at_valid X)) .none))) (EX.nil (EX.nil ⟨hi, rfl⟩))
      | 1, hx => obtain rfl := Option.some.inj hx; exact EX.ifF (ET.bool (EB.andF (ET.val (EV.attr (EV.name rfl) (at_valid X)) .none))) (EX.nil (EX.nil ⟨hi, rfl⟩))
    · rintro l o ⟨hi, rfl⟩
      refine EX.nil ?_
      refine EX.freezeO hi ?_
      exact EX.ret (EV.name rfl) rfl
end
end Mine
end

section -- L1
open PySem PySem.Calls PySem.W PyProof.Rows PySem.SeqAt PySem.MeetsSeq
set_option maxRecDepth 100000
set_option linter.unusedVariables false
namespace Mine
/-- a key with its part -/
def keyed (ks ps : List PD) : List PD := (ks.zip ps).map fun p => .tup [p.1, p.2]
mutual
/-- the drawing, as it is drawn -/
def drawP : T → PD
  | .n i => .tup [.str "n", .intz i]
  | .t x => .tup [.str "t", .strz x]
  | .z => .tup [.str "0", .val .none]
  | .l ts => .tup [.str "l", .list (drawL ts)]
  | .u ts => .tup [.str "u", .list (drawL ts)]
  | .o a b => .tup [.str "o", .list [drawP a, drawP b]]
  | .d ks ts => .tup [.str "d", .list (keyed ks (drawL ts))]
def drawL : List T → List PD
  | [] => []
  | x :: r => drawP x :: drawL r
end
mutual
/-- the drawing laid out, ints and strs with tokens of their own -/
def laidZ (k : Addr) : T → PD
  | .n i => .intz i
  | .t x => .strz x
  | .z => .val .none
  | .l ts => .list (laidZL k ts)
  | .u ts => .tup (laidZL k ts)
  | .o a b => .obj k (laidZ k a) (laidZ k b)
  | .d ks ts => .dict (ks.zip (laidZL k ts))
def laidZL (k : Addr) : List T → List PD
  | [] => []
  | x :: r => laidZ k x :: laidZL k r
end
theorem drawL_map : ∀ ts, drawL ts = ts.map drawP
  | [] => by simp [drawL]
  | x :: r => by simp [drawL, drawL_map r]
theorem laidZL_map (k : Addr) : ∀ ts, laidZL k ts = ts.map (laidZ k)
  | [] => by simp [laidZL]
  | x :: r => by simp [laidZL, laidZL_map k r]
theorem notRef_laidZ (k : Addr) : ∀ t, notRefD (laidZ k t) = true
  | .n i => by rw [laidZ]; rfl
  | .t x => by rw [laidZ]; rfl
  | .z => by rw [laidZ]; rfl
  | .l ts => by rw [laidZ]; rfl
  | .u ts => by rw [laidZ]; rfl
  | .o a b => by rw [laidZ]; rfl
  | .d ks ts => by rw [laidZ]; rfl
section
variable {hk : PD → Int} {L : Led} {k : Addr}
mutual
/-- what is laid with tokens is laid -/
theorem Is.unz : ∀ (t : T) {v : Value}, Is hk L v (laidZ k t) → Is hk L v (laid k t)
  | .n i, v, h => by rw [laidZ] at h; rw [laid]; cases h; exact .int _ _
  | .t x, v, h => by rw [laidZ] at h; rw [laid]; cases h; exact .str _ _
  | .z, v, h => by rw [laidZ] at h; rw [laid]; exact h
  | .l ts, v, h => by
    rw [laidZ] at h; rw [laid]
    cases h with
    | list h1 h2 h3 h4 => exact .list h1 h2 h3 (IsAll.unz ts h4)
  | .u ts, v, h => by
    rw [laidZ] at h; rw [laid]
    cases h with
    | tup h1 h2 h3 h4 => exact .tup h1 h2 h3 (IsAll.unz ts h4)
  | .o a b, v, h => by
    rw [laidZ] at h; rw [laid]
    cases h with
    | obj h1 h2 h3 h4 =>
      refine .obj h1 h2 ?_ h4
      cases h3 with
      | @dict _ _ es _ _ g1 g2 g3 g4 =>
        refine .dict g1 g2 g3 ?_
        obtain ⟨es⟩ := es
        have g4 : IsEs hk L es [(.str (Str.ofString "p"), laidZ k a), (.str (Str.ofString "q"), laidZ k b)] := g4
        cases g4 with
        | cons a1 a2 a3 a4 => cases a4 with
          | cons b1 b2 b3 b4 => cases b4; exact .cons a1 a2 (Is.unz a a3) (.cons b1 b2 (Is.unz b b3) .nil)
  | .d ks ts, v, h => by
    rw [laidZ] at h; rw [laid]
    cases h with
    | dict h1 h2 h3 h4 => exact .dict h1 h2 h3 (IsEs.unz ks ts h4)
theorem IsAll.unz : ∀ (ts : List T) {vs : List Value}, IsAll hk L vs (laidZL k ts) → IsAll hk L vs (laidL k ts)
  | [], _, h => by simpa [laidZL, laidL] using h
  | x :: r, vs, h => by
    rw [laidZL] at h
    rw [laidL]
    cases h with
    | cons h1 h2 => exact .cons (Is.unz x h1) (IsAll.unz r h2)
theorem IsEs.unz : ∀ (ks : List PD) (ts : List T) {es : List DictEntry}, IsEs hk L es (ks.zip (laidZL k ts)) → IsEs hk L es (ks.zip (laidL k ts))
  | [], ts, _, h => by simpa using h
  | _ :: _, [], _, h => by simpa [laidZL, laidL] using h
  | y :: ks, x :: r, es, h => by
    rw [laidZL, List.zip_cons_cons] at h
    rw [laidL, List.zip_cons_cons]
    cases h with
    | cons h0 h1 h2 h3 => exact .cons h0 h1 (Is.unz x h2) (IsEs.unz ks r h3)
end
end
section
variable {prog : Program} {w : World} {H : Heap} {hk : PD → Int} {n : Nat}
theorem CMP.inStrs {x : Str} {ys : List Str} : CMP prog w hk H n .In (.str x) (.tup (ys.map .str)) (ys.any (· == x)) := fun A s L u v ok inv led iu iv => by
  cases iu with
  | str _ t =>
    cases iv with
    | @tup a o vs nn _ h1 h2 h3 h4 =>
      have sa : ∀ (vs : List Value) (ys : List Str), IsAll hk L vs (ys.map .str) → StrsAre vs ys := by
        intro vs
        induction vs with
        | nil => intro ys h; cases ys with
          | nil => exact .nil
          | cons => cases h
        | cons v vs ih =>
          intro ys h
          cases ys with
          | nil => cases h
          | cons y ys =>
            cases h with
            | cons g1 g2 => cases g1; exact .cons _ _ (ih ys g2)
      have hs := sa _ _ h4
      refine in_tupleAt (isStrOf x) ⟨o, (led _ _ h1).1, h2, nn, h3⟩ (fun y hy => (eq_isStrOf x t hs y (Array.mem_toList_iff.mpr hy)).at _ _) ?_
      rw [← Array.any_toList, any_isStrOf x hs]
      exact ⟨rfl, .refl inv⟩
end
end Mine
end

section -- Q4
open PySem PySem.Calls PySem.W PyProof.Rows
set_option maxRecDepth 100000
set_option linter.unusedVariables false
namespace Mine
section
variable {prog : Program} {w : World} {hk : PD → Int} {H : Heap} {n m : Nat} {F : Fm} {look : Look} {A : Around} {E : Value → Shared → Prop} {s : Shared} {L : Led} {K : Frag}
/-- a method of an own object's -/
def MO (prog : Program) (w : World) (hk : PD → Int) (H : Heap) (d : PD) (name : Str) (f : Addr) : Prop :=
  ∀ (A : Around) (s : Shared) (L : Led) (o : Value) (pl : Sem Bool), Inv H s.heap → Holds H L s.heap → Is hk L o d → wpAny (model prog w) A (getMethod o name pl) (fun fx s₁ => s₁ = s ∧ fx = (.ref f, [o])) (fun _ _ => False) s
theorem EV.methO {o : Expr} {name : Str} {apos pos : Pos} {args : List Expr} {d r : PD} {ps : List PD} {pl : Env → Sem Bool} {f : Addr} (h : EV prog w hk H n F look o d) (ha : ES prog w hk H n F look args ps) (m : MO prog w hk H d name f) (kp : KP prog w hk H (.val (.ref f))) (fn : FN prog w hk H n (.val (.ref f)) (d :: ps) [] r)
    (hp : ∀ pos env, (backTo pos (starEach args env)).any (·.1) = false := by intro _ _; rfl)
    (he : ∀ env, eval (.Call (.Attribute o name apos) args [] pos) env = (do
      let ov ← eval o env
      standAt apos.atName
      let (f, first) ← holding [ov] (getMethod ov name (pl env))
      callWith pos f first (backTo pos (starEach args env)) (backToKw pos (keywordEach [] env))) := by intro _; rfl) : EV prog w hk H n F look (.Call (.Attribute o name apos) args [] pos) r := fun A s L env ok p => by
  refine call_method (pl := pl env) (h.use ok p fun ov s₁ q₁ i₁ p₁ => wpAny_mono (m A s₁ _ ov (pl env) p₁.inv p₁.led i₁) (fun fx s₂ h₂ => ?_) fun _ _ f => f.elim) (he env)
  obtain ⟨rfl, rfl⟩ := h₂
  refine callWith_any (evalArgs_any (hp pos env) rfl (ha.use ok p₁ fun vs s₃ q₃ i₃ p₃ => ?_))
  refine wpAny_mono (EK.nil.2 A s₃ _ env pos ok p₃) (fun kvs s₄ h₄ => ?_) fun _ _ f => f
  obtain ⟨q₄, i₄⟩ := h₄
  obtain rfl := i₄.none0
  have p₄ := p₃.pure q₄
  refine wpAny_mono (kp A s₄ _ _ p₄.inv p₄.led (.val _)) (fun _ s₅ e => ?_) fun _ _ f => f.elim
  subst e
  refine wpAny_mono (fn A s₅ _ (.ref f) (ov :: vs) [] ok p₄.inv p₄.led (.val _) (.cons (i₁.mono fun _ _ e => .inl (.inl e)) (i₃.mono fun _ _ => .inl)) .nil rfl) (fun _ _ e => ?_) fun _ _ f => f
  exact Post.step q₁ (Post.step q₃ (Post.step q₄ e))
theorem MO.kindEq {k f : Addr} (X : KOk K H) (hg : plainGet K kindC "eq_of" = true) (hf : findIn K (.ref kindC) "eq_of" = some (some (.ref f))) (ht : isFn K (.ref f) = true) : MO prog w hk H (.kind k) "eq_of" f := fun A s L o pl inv led i => by
  cases i with
  | kind h =>
    obtain ⟨kd, es, n, ma, mo, mn, aa, ao, an, ea, eo, en, a1, a2, a3, a4, h1, h2, ⟨m1, m2, m3, m4⟩, ⟨b1, b2, b3, b4⟩, ⟨c1, c2, c3, c4⟩, e, x1, x2, x3, x4⟩ := h
    exact method_fn (X.in inv) (inst_of led h1 h2) (plainGet_of hg).1 (plainGet_of hg).2 hf (beq_iff_eq.mp ht) (by show (lookIn "eq_of" (dictOf es n)).map _ = _; rw [lookIn_dict, e]; rfl) ⟨rfl, rfl⟩
theorem CMP.isNotKind {k : Addr} : CMP prog w hk H n .IsNot (.kind k) (.kind k) false := fun A s L x y _ inv _ i j => by
  cases i; cases j; exact wpAny_isNot_ref_self ⟨rfl, .refl inv⟩
theorem CMP.ofEq {d : PD} (h : RCJ prog w hk H n .Eq d true) : CMP prog w hk H n .Eq d d true := fun A s L u v ok inv led i j => h A s L u v ok inv led i j
/-- two objects of one's own class are compared by their `__eq__` -/
theorem RCJ.objOf {k f : Addr} {p q : PD} (X : KOk K H) (hs : findIn K (.ref madeC) "__eq__" = some (some (.ref f))) (hf : isFn K (.ref f) = true) (fn : FN prog w hk H n (.val (.ref f)) [.obj k p q, .obj k p q] [] (.val (.bool true))) : RCJ prog w hk H n .Eq (.obj k p q) true := fun A s L u v ok inv led iu iv => by
  have iu' := iu
  have iv' := iv
  cases iu with
  | obj h1 h2 h3 h4 =>
  rename_i x dx hd h1' h2' t1 t2 nn
  cases iv with
  | obj g1 g2 g3 g4 =>
  rename_i y dy hd' g1' g2' t1' t2' nn'
  have I := inst_of led h1 h2
  have J := inst_of led g1 g2
  have XI := X.in inv
  unfold richCompare
  simp only [oneThing_ref]
  refine wpAny_holding (wpAny_bind (wpAny_cRoomFor ok.unit ?_))
  rw [show cmpInfo .Eq = (("==" : String), ("__eq__" : Str), ("__eq__" : Str)) from rfl]
  dsimp only
  refine wpAny_bind (I.type.here (wpAny_bind (J.type.here ?_)))
  rw [show (Value.ref madeC != Value.ref madeC) = false from by simp]
  simp only [Bool.false_eq_true, if_false]
  refine wpAny_bind (wpAny_pure ?_)
  simp only [Bool.false_eq_true, if_false]
  unfold tryCompare
  refine wpAny_bind (wpAny_bind (ifBound_K XI I hs hf (wpAny_mono (fn A s L _ [.ref x, .ref y] [] ok inv led (.val _) (.cons iu' (.cons iv' .nil)) .nil rfl) (fun r s' e => ?_) fun _ _ f => f)))
  obtain ⟨q, i⟩ := e
  cases i
  exact wpAny_pure (wpAny_pure ⟨rfl, q⟩)
end
section
variable {w : World} {H : Heap} {n : Nat} {k : Addr} {p q d : PD} {F : Fm} {look : Look} {hk : PD → Int}
/-- the expression `self.kind.eq_of()` within the first test -/
def eqOfE : List Stmt → Expr
  | .If (.BoolOp _ [_, .Compare e _ _ _] _) _ _ _ :: _ => e
  | _ => .Constant .none 0 default
theorem at_mro (X : Env0 (KK w) H) : AT prg w hk H (.kind k) "mro" (.list [.kind k]) := AT.kindMro X.toKOk (by kernel_rfl) (by kernel_rfl) (a := _) (by rfl) (by kernel_rfl)
theorem at_eqAttrs (X : Env0 (KK w) H) : AT prg w hk H (.kind k) "eq_attrs" (.list [.attr "p", .attr "q"]) := AT.kindEq X.toKOk (by kernel_rfl) (by kernel_rfl) (a := _) (by rfl) (by kernel_rfl)
theorem eqOf (X : Env0 (KK w) H) : FN prg w hk H (n + 1) (.val (.ref 118)) [.kind k] [] (.list [.attr "p", .attr "q"]) := by
  refine FN.k1 (x := "self") [] X rfl (fun u => by kernel_rfl) rfl ?_
  refine .step (EX1.for (items := [.one (.kind k)]) (f := fun x l => match x with | .one d => upd l "one" d | _ => l) (fun i l o => i = 0 ∧ o = []) (IT.list (ds := [.kind k]) (EV.attr (EV.name (d := .kind k) rfl) (at_mro X))) ⟨rfl, rfl⟩ (by rintro i l o ⟨_, rfl⟩; rfl) (by
    intro x hx; obtain rfl := List.mem_singleton.mp hx; exact TGI.one TG.name) (fun i x l o hx hJ => ?_) ?_)
  · obtain ⟨rfl, rfl⟩ := hJ
    obtain rfl := Option.some.inj hx
    refine EX.ifT (ET.cmp (EV.attr (EV.name rfl) (at_eqAttrs X)) EV.none (CMP.notNone' rfl)) ?_
    exact EX.ret (EV.attr (EV.name rfl) (at_eqAttrs X)) rfl
  · rintro l o ⟨h, _⟩; cases h
theorem keyed_of (X : Env0 (KK w) H) {x : Str} {dv : PD} {i : Nat} (hi : KeyAt [(.str (Str.ofString "p"), p), (.str (Str.ofString "q"), q)] (.str x) (some i) ∧ ∃ k', ([(.str (Str.ofString "p"), p), (.str (Str.ofString "q"), q)] : List (PD × PD))[i]? = some (k', dv)) :
    FN prg w (hkW w) H (n + 2) (.val (.ref 224)) [.obj k p q, .attr x, .val .none] [] dv := by
  refine FN.defK (names := ["inst", "a", "key"]) [] X rfl (BINDS.pos (fun vs h => ?_)) (by decide) rfl ?_
  · match vs, h with
    | [a, b, c], _ => kernel_rfl
  refine EX.ret ?_ rfl
  refine EV.ifF (ET.val (EV.name rfl) .none) ?_
  exact EV.subAny (EV.attr (EV.name rfl) (AT.objHeld X.toKOk (by kernel_rfl) (by kernel_rfl) (a := _) (by rfl) (by kernel_rfl))) (EV.attrNm X rfl) (GI.dict (by omega) hi.1 hi.2.choose_spec)
/-- what the loop of __eq__ leans on -/
structure EqL (l : Look) (k : Addr) (p q : PD) : Prop where
  self : l "self" = some (.obj k p q)
  other : l "other" = some (.obj k p q)
theorem eq_turn (X : Env0 (KK w) H) {l : Look} {y : Str} {z : PD} {i : Nat} {G : Goal} (hl : EqL l k p q) (hi : KeyAt [(.str (Str.ofString "p"), p), (.str (Str.ofString "q"), q)] (.str y) (some i) ∧ ∃ k', ([(.str (Str.ofString "p"), p), (.str (Str.ofString "q"), q)] : List (PD × PD))[i]? = some (k', z))
    (hz : RCJ prg w (hkW w) H (n + 3) .Eq z true) (hN : ∀ l', EqL l' k p q → G.N l' []) : EX prg w (hkW w) H (n + 3) ⟨(fdOf (KK w) 175).scope, some (codeOf (fdOf (KK w) 175)), .none⟩ [] (upd l "a" (.attr y)) [] (forBody ((bodyOf (fdOf (KK w) 175)).drop 1)) G := by
  have kx : FN prg w (hkW w) H (n + 3) (.val (.ref 224)) [.obj k p q, .attr y, .val .none] [] z := FN.le (keyed_of (n := 0) X hi) (by omega)
  refine EX.ifF (ET.not (b := true) (ET.cmp (EV.callF (EV.gk X) (.cons (EV.name (d := .obj k p q) hl.self) (.cons (EV.name (d := .attr y) rfl) (.cons (EV.attr (EV.name (d := .attr y) rfl) (AT.attrEqKey X.toKOk (by kernel_rfl) (by kernel_rfl) (a := _) (by rfl) (by kernel_rfl))) .nil))) .nil (KP.Kk X) kx)
    (EV.callF (EV.gk X) (.cons (EV.name (d := .obj k p q) hl.other) (.cons (EV.name (d := .attr y) rfl) (.cons (EV.attr (EV.name (d := .attr y) rfl) (AT.attrEqKey X.toKOk (by kernel_rfl) (by kernel_rfl) (a := _) (by rfl) (by kernel_rfl))) .nil))) .nil (KP.Kk X) kx) (CMP.ofEq hz))) ?_
  exact EX.nil (EX.nil (hN _ ⟨hl.self, hl.other⟩))
theorem made_eq (X : Env0 (KK w) H) (hp : RCJ prg w (hkW w) H (n + 3) .Eq p true) (hq : RCJ prg w (hkW w) H (n + 3) .Eq q true) : FN prg w (hkW w) H (n + 4) (.val (.ref 175)) [.obj k p q, .obj k p q] [] (.val (.bool true)) := by
  have eo : EV prg w (hkW w) H (n + 3) ⟨(fdOf (KK w) 175).scope, some (codeOf (fdOf (KK w) 175)), .none⟩ (fun z => ([("self" : Str), "other"].zip [.obj k p q, .obj k p q]).lookup z) (eqOfE (bodyOf (fdOf (KK w) 175))) (.list [.attr "p", .attr "q"]) := by
    refine EV.methO (d := .kind k) (EV.attr (EV.name (d := .obj k p q) rfl) (AT.objKind X.toKOk (by kernel_rfl) (by kernel_rfl) (a := _) (by rfl) (by kernel_rfl))) .nil (MO.kindEq (f := 118) X.toKOk (by kernel_rfl) (by rfl) (by kernel_rfl)) (KP.Kk X) (FN.le (eqOf (n := 0) X) (by omega))
  refine FN.k2 (x := "self") (y := "other") [] X rfl (fun u v => by kernel_rfl) (by decide) rfl ?_
  refine EX.ifF (ET.bool (EB.orF (ET.cmp (EV.callF (EV.gk X) (.cons (EV.name (d := .obj k p q) rfl) .nil) .nil (KP.Kk X) (FN.le (kindOf_obj (n := 0) X) (by omega))) (EV.attr (EV.name (d := .obj k p q) rfl) (AT.objKind X.toKOk (by kernel_rfl) (by kernel_rfl) (a := _) (by rfl) (by kernel_rfl))) CMP.isNotKind)
    (EB.orF (ET.cmp eo EV.none (CMP.none' rfl)) EB.orNil))) (EX.nil ?_)
  refine .step (EX1.for (items := pqItems) (f := aLook) (fun i l o => EqL l k p q ∧ o = []) (IT.list (ds := [.attr "p", .attr "q"]) ?_) ⟨⟨rfl, rfl⟩, rfl⟩ (by rintro i l o ⟨_, rfl⟩; rfl) (pq_mem fun y _ => TGI.one TG.name) (fun i x l o hx hJ => ?_) ?_)
  · exact EV.methO (d := .kind k) (EV.attr (EV.name (d := .obj k p q) rfl) (AT.objKind X.toKOk (by kernel_rfl) (by kernel_rfl) (a := _) (by rfl) (by kernel_rfl))) .nil (MO.kindEq (f := 118) X.toKOk (by kernel_rfl) (by rfl) (by kernel_rfl)) (KP.Kk X) (FN.le (eqOf (n := 0) X) (by omega))
  · obtain ⟨hl, rfl⟩ := hJ
    match i, hx with
    | 0, hx => obtain rfl := Option.some.inj hx; exact eq_turn (n := n) X hl (i := 0) ⟨.of (by rfl), _, rfl⟩ hp fun l' h' => ⟨h', rfl⟩
    | 1, hx => obtain rfl := Option.some.inj hx; exact eq_turn (n := n) X hl (i := 1) ⟨.of (by rfl), _, rfl⟩ hq fun l' h' => ⟨h', rfl⟩
  · rintro l o ⟨hl, rfl⟩
    exact EX.ret EV.bool rfl
theorem RCJ.obj (X : Env0 (KK w) H) (hp : RCJ prg w (hkW w) H (n + 3) .Eq p true) (hq : RCJ prg w (hkW w) H (n + 3) .Eq q true) : RCJ prg w (hkW w) H (n + 4) .Eq (.obj k p q) true := RCJ.objOf X.toKOk (f := 175) (by rfl) (by kernel_rfl) (made_eq X hp hq)
end
end Mine
end

section -- L2
open PySem PySem.Calls PySem.W PyProof.Rows PySem.SeqAt PySem.MeetsSeq
set_option maxRecDepth 100000
set_option linter.unusedVariables false
namespace Mine
/-- what a keyed part is told as -/
def kdOf1 (es out : List (PD × PD)) : Item → Option (PD × PD)
  | .one (.tup (k0 :: r)) => some (kdOf es out (.tup (k0 :: r)))
  | _ => Option.none
def keyLook (x : Item) (l : Look) : Look := match x with | .one (.tup [a, b]) => upds l ["key", "part"] [a, b] | _ => l
section
variable {w : World} {H : Heap} {n : Nat} {k : Addr} {u v : PD} {F : Fm} {look : Look} {hk : PD → Int}
theorem keyed_at {es out : List (PD × PD)} (hlen : out.length = es.length) (hidx : ∀ (i : Nat) e, es[i]? = some e → (es.findIdx fun y => keyEq y.1 e.1) = i) {i : Nat} {x : Item} (hx : (es.map fun p => Item.one (.tup [p.1, p.2]))[i]? = some x) :
    ∃ e o, es[i]? = some e ∧ out[i]? = some o ∧ x = .one (.tup [e.1, e.2]) ∧ kdOf1 es out x = some o := by
  rw [List.getElem?_map] at hx
  obtain ⟨e, he, rfl⟩ := Option.map_eq_some_iff.mp hx
  obtain ⟨e', o, h1, h2, h3, h4⟩ := kdOf_at hlen hidx (i := i) (x := .tup [e.1, e.2]) (by rw [List.getElem?_map, he]; rfl)
  rw [he] at h1; cases h1
  exact ⟨_, o, he, h2, rfl, congrArg some h4⟩
theorem keyed_take {es out : List (PD × PD)} (hlen : out.length = es.length) (hidx : ∀ (i : Nat) e, es[i]? = some e → (es.findIdx fun y => keyEq y.1 e.1) = i) (i : Nat) : ((es.map fun p => Item.one (.tup [p.1, p.2])).take i).filterMap (kdOf1 es out) = out.take i := by
  have e := kdOf_map hlen hidx
  rw [List.map_map] at e
  have h1 : ∀ l : List (PD × PD), (l.map fun p => Item.one (.tup [p.1, p.2])).filterMap (kdOf1 es out) = l.map (kdOf es out ∘ fun p => Item.tup [p.1, p.2]) := fun l => by
    induction l with
    | nil => rfl
    | cons p r ih =>
      rw [List.map_cons, List.map_cons, List.filterMap_cons, ih]
      rfl
  rw [← List.map_take, h1, List.map_take, e]
theorem keyed_map {es out : List (PD × PD)} (hlen : out.length = es.length) (hidx : ∀ (i : Nat) e, es[i]? = some e → (es.findIdx fun y => keyEq y.1 e.1) = i) : (es.map fun p => Item.one (.tup [p.1, p.2])).filterMap (kdOf1 es out) = out := by
  have h := keyed_take hlen hidx es.length
  rw [← hlen, List.take_length] at h
  rwa [hlen, ← List.length_map (f := fun p : PD × PD => Item.one (.tup [p.1, p.2])), List.take_length] at h
/-- a comprehension over keyed parts -/
theorem EV.keyedComp {kx vx iter : Expr} {scope : Scope} {pos p1 p2 tpos : Pos} {kk : Nat} {es out : List (PD × PD)} (hn : 1 ≤ n) (h : EV prg w (hkW w) H n F look iter (.list (es.map fun p => .tup [p.1, p.2]))) (hsz : es.length ≤ sizeLine) (hsc : scOk F scope = true)
    (hx : (scope.names.lookup ("key" : Str) == some .local) = true) (hy : (scope.names.lookup ("part" : Str) == some .local) = true) (hxr : ((relab scope F.sc).names.lookup ("key" : Str) == some .local) = true) (hyr : ((relab scope F.sc).names.lookup ("part" : Str) == some .local) = true)
    (hlen : out.length = es.length) (hidx : ∀ (i : Nat) e, es[i]? = some e → (es.findIdx fun y => keyEq y.1 e.1) = i) (hkeys : ∀ (i : Nat) o, out[i]? = some o → KeyAt (out.take i) o.1 .none)
    (hb : ∀ (i : Nat) e o, es[i]? = some e → out[i]? = some o → EV prg w (hkW w) H n (F.comp scope) (upds (compLook F scope look) ["key", "part"] [e.1, e.2]) kx o.1 ∧ EV prg w (hkW w) H n (F.comp scope) (upds (compLook F scope look) ["key", "part"] [e.1, e.2]) vx o.2)
    (hs : ∀ env x, foldedSetIterable iter env x = pure x := by intro _ _; rfl) :
    EV prg w (hkW w) H n F look (.DictComp kx vx [⟨.Tuple [.Name "key" p1, .Name "part" p2] kk tpos, iter, [], 0⟩] scope pos) (.dict out) := by
  have e0 := keyed_map hlen hidx
  refine Eq.mp (congrArg (fun z => EV prg w (hkW w) H n F look _ (.dict z)) e0) ?_
  have len0 : (es.map fun p => Item.one (.tup [p.1, p.2])).length = es.length := List.length_map ..
  have hit : IT prg w (hkW w) H n F look iter (.Tuple [.Name "key" p1, .Name "part" p2] kk tpos) (es.map fun p => Item.one (.tup [p.1, p.2])) := by
    have := IT.list (t := .Tuple [.Name "key" p1, .Name "part" p2] kk tpos) h
    rw [List.map_map] at this
    exact this
  refine EV.dictComp (f := keyLook) (g := kdOf1 es out) hn hit (by rw [len0]; exact hsz) (.of hsc) (fun x hx' => ?_) (fun x hx' => ?_) (fun x hx' => ?_) (fun i x k d hx' hg => ?_) hs
  · obtain ⟨e, _, rfl⟩ := List.mem_map.mp hx'
    exact TGI.one (TG.tup (xs := [("key", p1), ("part", p2)]) rfl (by
      intro x hx; simp at hx
      rcases hx with rfl | rfl
      · exact .inl (by simpa using hxr)
      · exact .inl (by simpa using hyr)))
  · obtain ⟨e, _, rfl⟩ := List.mem_map.mp hx'
    exact compLook_upds hx hy
  · obtain ⟨i, hi, hix⟩ := List.mem_iff_getElem.mp hx'
    obtain ⟨e, o, he, ho, rfl, hkd⟩ := keyed_at hlen hidx (List.getElem?_eq_some_iff.mpr ⟨hi, hix⟩)
    rw [hkd]
    exact ⟨.nil, hb i e o he ho⟩
  · obtain ⟨e, o, he, ho, rfl, hkd⟩ := keyed_at hlen hidx hx'
    rw [hkd] at hg
    cases hg
    rw [keyed_take hlen hidx]
    exact hkeys i _ ho
end
end Mine
end

section -- L3
open PySem PySem.Calls PySem.W PyProof.Rows PySem.SeqAt PySem.MeetsSeq
set_option maxRecDepth 100000
set_option linter.unusedVariables false
namespace Mine
section
variable {w : World} {H : Heap} {n : Nat} {k : Addr} {u v : PD} {F : Fm} {look : Look} {hk : PD → Int}
theorem laid_atom (X : Env0 (KK w) H) {c : Str} {d : PD} (hc : ([("n" : Str), "t", "0"].any (· == c)) = true) : FN prg w (hkW w) H (n + 1) (.val (.ref 500)) [.tup [.str c, d], .kind k] [] d := by
  refine FN.k2 (x := "drawn") (y := "made") [] X rfl (fun u v => by kernel_rfl) (by decide) rfl ?_
  refine EX.unpack (xs := [("kind", _), ("parts", _)]) (EV.name rfl) ?_ (by intro x hx; simp at hx; rcases hx with rfl | rfl <;> exact .inl rfl)
  refine EX.ifT (ET.eq (ET.cmp (EV.name (x := "kind") (d := .str c) rfl) (EV.tup (ds := [("n" : Str), "t", "0"].map .str) (.cons EV.str (.cons EV.str (.cons EV.str .nil)))) CMP.inStrs) (by exact hc)) ?_
  exact EX.ret (EV.name rfl) rfl
theorem laid_dict (X : Env0 (KK w) H) {es out : List (PD × PD)} (hsz : es.length ≤ sizeLine) (hlen : out.length = es.length) (hidx : ∀ (i : Nat) e, es[i]? = some e → (es.findIdx fun y => keyEq y.1 e.1) = i) (hkeys : ∀ (i : Nat) o, out[i]? = some o → KeyAt (out.take i) o.1 .none)
    (hch : ∀ (i : Nat) e o, es[i]? = some e → out[i]? = some o → o.1 = e.1 ∧ FN prg w (hkW w) H (n + 1) (.val (.ref 500)) [e.2, .kind k] [] o.2) : FN prg w (hkW w) H (n + 2) (.val (.ref 500)) [.tup [.str "d", .list (es.map fun p => .tup [p.1, p.2])], .kind k] [] (.dict out) := by
  refine FN.k2 (x := "drawn") (y := "made") [] X rfl (fun u v => by kernel_rfl) (by decide) rfl ?_
  refine EX.unpack (xs := [("kind", _), ("parts", _)]) (EV.name rfl) ?_ (by intro x hx; simp at hx; rcases hx with rfl | rfl <;> exact .inl rfl)
  refine EX.ifF (ET.eq (ET.cmp (EV.name (d := .str "d") rfl) (EV.tup (ds := [("n" : Str), "t", "0"].map .str) (.cons EV.str (.cons EV.str (.cons EV.str .nil)))) CMP.inStrs) (by decide)) (EX.nil ?_)
  refine EX.ifT (ET.eq (ET.cmp (EV.name (d := .str "d") rfl) EV.str CMP.eqStr) (by decide)) ?_
  refine EX.ret (d := .dict out) ?_ rfl
  refine EV.keyedComp (by omega) (EV.name rfl) hsz (by rfl) (by rfl) (by rfl) (by rfl) (by rfl) hlen hidx hkeys fun i e o he ho => ?_
  obtain ⟨h1, h2⟩ := hch i e o he ho
  exact ⟨h1 ▸ EV.name rfl, EV.callF (EV.gk X) (.cons (EV.name rfl) (.cons (EV.name rfl) .nil)) .nil (KP.Kk X) h2⟩
theorem laid_seq (X : Env0 (KK w) H) {c : Str} {ds rs : List PD} {r : PD} (hc : ([("n" : Str), "t", "0"].any (· == c)) = false) (hd : (c == ("d" : Str)) = false) (hz : ds.length ≤ sizeLine) (hlen : rs.length = ds.length)
    (hch : ∀ (i : Nat) x r, ds[i]? = some x → rs[i]? = some r → FN prg w (hkW w) H (n + 8) (.val (.ref 500)) [x, .kind k] [] r)
    (hr : (c = "l" ∧ r = .list rs) ∨ (c = "u" ∧ r = .tup rs) ∨ (c = "o" ∧ ∃ a b, rs = [a, b] ∧ r = .obj k a b ∧ notRefD a = true ∧ notRefD b = true)) : FN prg w (hkW w) H (n + 9) (.val (.ref 500)) [.tup [.str c, .list ds], .kind k] [] r := by
  refine FN.k2 (x := "drawn") (y := "made") ["made"] X rfl (fun u v => by kernel_rfl) (by decide) rfl ?_
  refine EX.unpack (xs := [("kind", _), ("parts", _)]) (EV.name rfl) ?_ (by intro x hx; simp at hx; rcases hx with rfl | rfl <;> exact .inl rfl)
  refine EX.ifF (ET.eq (ET.cmp (EV.name (d := .str c) rfl) (EV.tup (ds := [("n" : Str), "t", "0"].map .str) (.cons EV.str (.cons EV.str (.cons EV.str .nil)))) CMP.inStrs) hc) (EX.nil ?_)
  refine EX.ifF (ET.eq (ET.cmp (EV.name (d := .str c) rfl) EV.str CMP.eqStr) hd) (EX.nil ?_)
  refine EX.assignCL (CP.listI (rs := rs) (items := ds.map .one) (f := fun x l => match x with | .one d => upd l "part" d | _ => l) (IT.list (EV.name rfl)) (by rw [List.length_map]; exact hz) (.of (by rfl)) (by rw [List.length_map]; exact hlen) (fun x hx => ?_) (fun x hx => ?_) (fun i x r hx hr => ?_)) ?_
  · obtain ⟨d, _, rfl⟩ := List.mem_map.mp hx; exact TGI.one TG.name
  · obtain ⟨d, _, rfl⟩ := List.mem_map.mp hx; exact compLook_upd (by rfl)
  · rw [List.getElem?_map] at hx
    obtain ⟨d, hd, rfl⟩ := Option.map_eq_some_iff.mp hx
    exact EV.callF (EV.gk X) (.cons (EV.name rfl) (.cons (EV.name rfl) .nil)) .nil (KP.Kk X) (hch i d r hd hr)
  · have hz' : rs.length ≤ sizeLine := hlen ▸ hz
    refine EX.ret (d := r) ?_ rfl
    rcases hr with ⟨rfl, rfl⟩ | ⟨rfl, rfl⟩ | ⟨rfl, a, b, rfl, rfl, ha, hb⟩
    · exact EV.ifT (ET.eq (ET.cmp (EV.name (d := .str "l") rfl) EV.str CMP.eqStr) (by decide)) (EV.name rfl)
    · exact EV.ifF (ET.eq (ET.cmp (EV.name (d := .str "u") rfl) EV.str CMP.eqStr) (by decide)) (EV.ifT (ET.eq (ET.cmp (EV.name (d := .str "u") rfl) EV.str CMP.eqStr) (by decide)) (EV.callF (EV.bk X) (.cons (EV.name rfl) .nil) .nil KP.type (FN.tupleOf hz')))
    · exact EV.ifF (ET.eq (ET.cmp (EV.name (d := .str "o") rfl) EV.str CMP.eqStr) (by decide)) (EV.ifF (ET.eq (ET.cmp (EV.name (d := .str "o") rfl) EV.str CMP.eqStr) (by decide))
        (EV.callF (EV.name (d := .kind k) rfl) (.cons (EV.sub (EV.name (d := .list [a, b]) rfl) EV.int (GI.list (k := 0) rfl)) (.cons (EV.sub (EV.name (d := .list [a, b]) rfl) EV.int (GI.list (k := 1) rfl)) .nil)) .nil KP.kind (make_obj X ha hb)))
/-- the drawing laid out -/
theorem laid_spec (X : Env0 (KK w) H) : ∀ m t, ht t ≤ m → WT t → FN prg w (hkW w) H (10 * m + 10) (.val (.ref 500)) [drawP t, .kind k] [] (laidZ k t) := by
  intro m
  induction m with
  | zero =>
    intro t hh hw
    match t, hh with
    | .n i, _ => rw [drawP, laidZ]; exact laid_atom (n := 9) X (by decide)
    | .t x, _ => rw [drawP, laidZ]; exact laid_atom (n := 9) X (by decide)
    | .z, _ => rw [drawP, laidZ]; exact laid_atom (n := 9) X (by decide)
    | .l ts, hh => rw [ht] at hh; omega
    | .u ts, hh => rw [ht] at hh; omega
    | .o a b, hh => rw [ht] at hh; omega
    | .d ks ts, hh => rw [ht] at hh; omega
  | succ m IH =>
    intro t hh hw
    have kid : ∀ ts : List T, htL ts ≤ m → WTL ts → ∀ (i : Nat) x r, (drawL ts)[i]? = some x → (laidZL k ts)[i]? = some r → FN prg w (hkW w) H (10 * m + 10) (.val (.ref 500)) [x, .kind k] [] r := fun ts h1 h2 i x r hx hr => by
      rw [drawL_map, List.getElem?_map] at hx
      rw [laidZL_map, List.getElem?_map] at hr
      obtain ⟨t, ht', rfl⟩ := Option.map_eq_some_iff.mp hx
      rw [ht'] at hr
      obtain rfl := Option.some.inj hr
      have hm := List.mem_of_getElem? ht'
      exact IH t (by have := htL_mem t hm; omega) (WTL_mem h2 t hm)
    match t, hh, hw with
    | .n i, _, _ => rw [drawP, laidZ]; exact FN.le (laid_atom (n := 9) X (by decide)) (by omega)
    | .t x, _, _ => rw [drawP, laidZ]; exact FN.le (laid_atom (n := 9) X (by decide)) (by omega)
    | .z, _, _ => rw [drawP, laidZ]; exact FN.le (laid_atom (n := 9) X (by decide)) (by omega)
    | .l ts, hh, hw =>
      rw [ht] at hh; rw [WT] at hw; rw [drawP, laidZ]
      exact FN.le (laid_seq (n := 10 * m + 2) X (by decide) (by decide) (by rw [drawL_map, List.length_map]; exact Nat.le_trans hw.2 (sz rfl)) (by rw [drawL_map, laidZL_map, List.length_map, List.length_map]) (kid ts (by omega) hw.1) (.inl ⟨rfl, rfl⟩)) (by omega)
    | .u ts, hh, hw =>
      rw [ht] at hh; rw [WT] at hw; rw [drawP, laidZ]
      exact FN.le (laid_seq (n := 10 * m + 2) X (by decide) (by decide) (by rw [drawL_map, List.length_map]; exact Nat.le_trans hw.2 (sz rfl)) (by rw [drawL_map, laidZL_map, List.length_map, List.length_map]) (kid ts (by omega) hw.1) (.inr (.inl ⟨rfl, rfl⟩))) (by omega)
    | .o a b, hh, hw =>
      rw [ht] at hh; rw [WT] at hw; rw [drawP, laidZ]
      refine FN.le (laid_seq (n := 10 * m + 2) (rs := [laidZ k a, laidZ k b]) X (by decide) (by decide) (sz rfl) rfl (fun i x r hx hr => ?_) (.inr (.inr ⟨rfl, _, _, rfl, rfl, notRef_laidZ k a, notRef_laidZ k b⟩))) (by omega)
      match i, hx, hr with
      | 0, hx, hr => obtain rfl := Option.some.inj hx; obtain rfl := Option.some.inj hr; exact IH a (by omega) hw.1
      | 1, hx, hr => obtain rfl := Option.some.inj hx; obtain rfl := Option.some.inj hr; exact IH b (by omega) hw.2
    | .d ks ts, hh, hw =>
      rw [ht] at hh; rw [WT] at hw
      obtain ⟨w1, w2, w3⟩ := hw
      rw [drawP, laidZ]
      have la : ks.length = (drawL ts).length := by rw [drawL_map, List.length_map]; exact w2
      have lb : ks.length = (laidZL k ts).length := by rw [laidZL_map, List.length_map]; exact w2
      have lk : ks.length ≤ 2 := ks_cases (P := fun ks _ => ks.length ≤ 2) (Nat.zero_le _) (fun _ _ _ => by simp) (fun _ _ _ _ => by simp) ks w3 _ la
      have kk := ks_keys false ks w3 _ lb
      have e0 : ks.map (keyT false) = ks := by
        have : keyT false = id := rfl
        rw [this, List.map_id]
      rw [e0] at kk
      refine FN.le (laid_dict (n := 10 * m + 9) X ?_ ?_ (ks_idx ks w3 _ la) kk fun i e o he ho => ?_) (by omega)
      · rw [List.length_zip, ← la, Nat.min_self]; exact Nat.le_trans lk (sz rfl)
      · rw [List.length_zip, List.length_zip, ← la, ← lb]
      · obtain ⟨e1, e2⟩ := zip_at he
        obtain ⟨o1, o2⟩ := zip_at ho
        rw [e1] at o1
        exact ⟨(Option.some.inj o1).symm, kid ts (by omega) w1 i _ _ e2 o2⟩
end
end Mine
end

section -- L4
open PySem PySem.Calls PySem.W PyProof.Rows PySem.SeqAt PySem.MeetsSeq
set_option maxRecDepth 100000
set_option linter.unusedVariables false
namespace Mine
section
variable {prog : Program} {w : World} {H : Heap} {hk : PD → Int} {n : Nat} {F : Fm} {look : Look}
def is7 : PD → Bool
  | .int i => i == 7
  | _ => false
theorem CMP.eq7 {d : PD} (h : d ∈ K3 ∨ d = .str "z") (hn : 1 ≤ n) : CMP prog w hk H n .Eq d (.int 7) (is7 d) := fun A s L u v ok inv led iu iv => by
  cases iv with
  | int _ t =>
    have fin : ∀ b, RcAt A s u (.int 7 t) b → b = is7 d → wpAny (model prog w) A (compareOp .Eq u (.int 7 t)) (fun t s' => t = .bool (is7 d) ∧ Pure H s s') (fun _ _ => False) s := fun b hb e => hb prog w _ _ ⟨by rw [e], .refl inv⟩
    simp only [K3, List.mem_cons, List.not_mem_nil, or_false] at h
    rcases h with (rfl | rfl | rfl) | rfl
    · cases iu; exact fin _ (RcAt.str_int _ _ _ _) rfl
    · cases iu with
      | tup h1 h2 h3 h4 => exact fin _ (RcAt.tuple_int _ _ ⟨_, (led _ _ h1).1, h2, _, h3⟩ ok.unit) rfl
    · cases iu; exact fin _ (RcAt.int_int _ _ _ _) rfl
    · cases iu; exact fin _ (RcAt.str_int _ _ _ _) rfl
theorem FN.weak {f d d' : PD} {ps : List PD} {ks : List (Str × PD)} (h : FN prog w hk H n f ps ks d) (hw : ∀ (L : Led) v, Is hk L v d → Is hk L v d') : FN prog w hk H n f ps ks d' := fun A s L fv vs kvs ok inv led iv i1 i2 i3 =>
  wpAny_mono (h A s L fv vs kvs ok inv led iv i1 i2 i3) (fun v s' e => ⟨e.1, hw _ _ e.2⟩) fun _ _ f => f
theorem EV.weak {e : Expr} {d d' : PD} (h : EV prog w hk H n F look e d) (hw : ∀ (L : Led) v, Is hk L v d → Is hk L v d') : EV prog w hk H n F look e d' := fun A s L env ok p =>
  wpAny_mono (h A s L env ok p) (fun v s' e => ⟨e.1, hw _ _ e.2⟩) fun _ _ f => f
theorem BIN.addz {x y : Int} : BIN prog w hk H .Add (.intz x) (.int y) (.int (x + y)) := fun A s L u v _ inv _ i j => by
  cases i; cases j; exact P.add_int (Pure.post (.toks inv _) (.int _ _))
end
section
variable {w : World} {H : Heap} {n : Nat} {k : Addr} {u v : PD} {F : Fm} {look : Look} {hk : PD → Int} {keep tn : Bool} {wo : Str}
abbrev tabKs (keep tn : Bool) (wo : Str) (d : PD) : List PD := [d, .val (.bool keep), .str wo, .val (.bool tn)]
def woF (wo : Str) : Str → Bool := fun x => !(x == wo)
abbrev tabF (w : World) (H : Heap) (n : Nat) (keep tn : Bool) (wo : Str) (d r : PD) : Prop := FN prg w (hkW w) H n (.val (.ref 505)) (tabKs keep tn wo d) [] r
theorem tab_begin (X : Env0 (KK w) H) {c : Str} {d r : PD} (h : EX prg w (hkW w) H n ⟨(fdOf (KK w) 505).scope, some (codeOf (fdOf (KK w) 505)), .none⟩ ["keep", "without", "turned"] (upds (fun z => ((["drawn", "keep", "without", "turned"] : List Str).zip (tabKs keep tn wo (.tup [.str c, d]))).lookup z) ["kind", "parts"] [.str c, d]) [] ((bodyOf (fdOf (KK w) 505)).drop 1) (Rets r)) : tabF w H (n + 1) keep tn wo (.tup [.str c, d]) r := by
  refine FN.defK (names := ["drawn", "keep", "without", "turned"]) (ds := tabKs keep tn wo (.tup [.str c, d])) ["keep", "without", "turned"] X rfl (BINDS.pos (len4 rfl fun a b c d => by kernel_rfl)) (by decide) rfl ?_
  exact EX.unpack (xs := [("kind", _), ("parts", _)]) (EV.name rfl) h (by intro x hx; simp at hx; rcases hx with rfl | rfl <;> exact .inl rfl)
theorem tab_tz (X : Env0 (KK w) H) {c : Str} {d : PD} (hc : ([("t" : Str), "0"].any (· == c)) = true) : tabF w H (n + 1) keep tn wo (.tup [.str c, d]) d := by
  refine tab_begin X ?_
  exact EX.ifT (ET.eq (ET.cmp (EV.name (d := .str c) rfl) (EV.tup (ds := [("t" : Str), "0"].map .str) (.cons EV.str (.cons EV.str .nil))) CMP.inStrs) hc) (EX.ret (EV.name rfl) rfl)
theorem tab_n (X : Env0 (KK w) H) {i : Int} : tabF w H (n + 1) keep tn wo (.tup [.str "n", .intz i]) (keyT tn (.int i)) := by
  refine tab_begin X ?_
  refine EX.ifF (ET.eq (ET.cmp (EV.name (d := .str "n") rfl) (EV.tup (ds := [("t" : Str), "0"].map .str) (.cons EV.str (.cons EV.str .nil))) CMP.inStrs) (by decide)) (EX.nil ?_)
  refine EX.ifT (ET.eq (ET.cmp (EV.name (d := .str "n") rfl) EV.str CMP.eqStr) (by decide)) ?_
  refine EX.ret (d := keyT tn (.int i)) ?_ rfl
  cases tn with
  | true => exact EV.ifT (ET.val (EV.name rfl) (.bool _)) (EV.bin (EV.name rfl) EV.int BIN.addz)
  | false => exact EV.ifF (ET.val (EV.name rfl) (.bool _)) (EV.weak (EV.name (d := .intz i) rfl) fun L v h => by cases h; exact .int _ _)
theorem tab_dict (X : Env0 (KK w) H) {es out : List (PD × PD)} (hsz : es.length ≤ sizeLine) (hlen : out.length = es.length) (hidx : ∀ (i : Nat) e, es[i]? = some e → (es.findIdx fun y => keyEq y.1 e.1) = i) (hkeys : ∀ (i : Nat) o, out[i]? = some o → KeyAt (out.take i) o.1 .none)
    (hch : ∀ (i : Nat) e o, es[i]? = some e → out[i]? = some o → (e.1 ∈ K3 ∨ e.1 = .str "z") ∧ o.1 = keyT tn e.1 ∧ tabF w H (n + 1) keep tn wo e.2 o.2) : tabF w H (n + 2) keep tn wo (.tup [.str "d", .list (es.map fun p => .tup [p.1, p.2])]) (.dict out) := by
  refine tab_begin X ?_
  refine EX.ifF (ET.eq (ET.cmp (EV.name (d := .str "d") rfl) (EV.tup (ds := [("t" : Str), "0"].map .str) (.cons EV.str (.cons EV.str .nil))) CMP.inStrs) (by decide)) (EX.nil ?_)
  refine EX.ifF (ET.eq (ET.cmp (EV.name (d := .str "d") rfl) EV.str CMP.eqStr) (by decide)) (EX.nil ?_)
  refine EX.ifT (ET.eq (ET.cmp (EV.name (d := .str "d") rfl) EV.str CMP.eqStr) (by decide)) ?_
  refine EX.ret (d := .dict out) ?_ rfl
  refine EV.keyedComp (by omega) (EV.name rfl) hsz (by rfl) (by rfl) (by rfl) (by rfl) (by rfl) hlen hidx hkeys fun i e o he ho => ?_
  obtain ⟨h0, h1, h2⟩ := hch i e o he ho
  refine ⟨?_, EV.callF (EV.gk X) (.cons (EV.name rfl) (.cons (EV.name rfl) (.cons (EV.name rfl) (.cons (EV.name rfl) .nil)))) .nil (KP.Kk X) h2⟩
  rw [h1]
  cases tn with
  | false => exact EV.ifF (ET.bool (EB.andF (ET.val (EV.name rfl) (.bool _)))) (EV.name rfl)
  | true =>
    cases h7 : is7 e.1 with
    | true =>
      have e7 : e.1 = .int 7 := by
        simp only [K3, List.mem_cons, List.not_mem_nil, or_false] at h0
        rcases h0 with (h | h | h) | h <;> rw [h] at h7 <;> first | exact h | cases h7
      rw [e7]
      exact EV.ifT (ET.bool (EB.andT (ET.val (EV.name rfl) (.bool _)) (EB.andT (ET.eq (ET.cmp (EV.name (d := .int 7) rfl) EV.int (CMP.eq7 (.inl (by simp [K3])) (by omega))) rfl) EB.andNil))) EV.int
    | false =>
      have e7 : keyT true e.1 = e.1 := by
        simp only [K3, List.mem_cons, List.not_mem_nil, or_false] at h0
        rcases h0 with (h | h | h) | h <;> rw [h] at h7 ⊢ <;> first | rfl | cases h7
      rw [e7]
      exact EV.ifF (ET.bool (EB.andT (ET.val (EV.name rfl) (.bool _)) (EB.andF (ET.eq (ET.cmp (EV.name (d := e.1) rfl) EV.int (CMP.eq7 h0 (by omega))) h7)))) (EV.name rfl)
end
end Mine
end

section -- L5
open PySem PySem.Calls PySem.W PyProof.Rows PySem.SeqAt PySem.MeetsSeq
set_option maxRecDepth 100000
set_option linter.unusedVariables false
namespace Mine
section
variable {w : World} {H : Heap} {n : Nat} {k : Addr} {u v : PD} {F : Fm} {look : Look} {hk : PD → Int} {keep tn : Bool} {wo : Str}
def woG (wo : Str) : Item → Option (PD × PD)
  | .one (.tup [.str y, r]) => if woF wo y then some (.str y, r) else Option.none
  | _ => Option.none
abbrev woItems (a b : PD) : List Item := [.one (.tup [.str "p", a]), .one (.tup [.str "q", b])]
theorem woItems_map (a b : PD) : (woItems a b).filterMap (woG wo) = rowOf (woF wo) a b := by
  unfold rowOf
  show (List.filterMap (woG wo) [_, _]) = _
  rw [List.filterMap_cons, List.filterMap_cons]
  have e1 : woG wo (.one (.tup [.str "p", a])) = if woF wo "p" then some (.str "p", a) else Option.none := rfl
  have e2 : woG wo (.one (.tup [.str "q", b])) = if woF wo "q" then some (.str "q", b) else Option.none := rfl
  rw [e1, e2]
  cases woF wo "p" <;> cases woF wo "q" <;> rfl
theorem ET.woT {x : Str} {F : Fm} {look : Look} {y : Str} {p1 p2 p3 : Pos} (hx : look x = some (.str y)) (hw : look "without" = some (.str wo)) (hd : (x == ("__debug__" : Str)) = false := by decide) : ET prg w (hkW w) H n F look (.Compare (.Name x p1) [.NotEq] [.Name "without" p2] p3) (woF wo y) :=
  ET.cmp (EV.name hx hd) (EV.name hw) CMP.neStr
theorem tab_o (X : Env0 (KK w) H) {a b ra rb : PD} (h1 : tabF w H (n + 1) keep tn wo a ra) (h2 : tabF w H (n + 1) keep tn wo b rb) : tabF w H (n + 2) keep tn wo (.tup [.str "o", .list [a, b]]) (.dict (rowOf (woF wo) ra rb)) := by
  refine tab_begin X ?_
  refine EX.ifF (ET.eq (ET.cmp (EV.name (d := .str "o") rfl) (EV.tup (ds := [("t" : Str), "0"].map .str) (.cons EV.str (.cons EV.str .nil))) CMP.inStrs) (by decide)) (EX.nil ?_)
  refine EX.ifF (ET.eq (ET.cmp (EV.name (d := .str "o") rfl) EV.str CMP.eqStr) (by decide)) (EX.nil ?_)
  refine EX.ifF (ET.eq (ET.cmp (EV.name (d := .str "o") rfl) EV.str CMP.eqStr) (by decide)) (EX.nil ?_)
  refine EX.assignCL (CP.listI (rs := [ra, rb]) (items := [.one a, .one b]) (f := fun x l => match x with | .one d => upd l "part" d | _ => l) (IT.list (ds := [a, b]) (EV.name rfl)) (sz rfl) (.of (by rfl)) rfl (fun x hx => ?_) (fun x hx => ?_) (fun i x r hx hr => ?_)) ?_
  · rcases List.mem_cons.mp hx with rfl | hx
    · exact TGI.one TG.name
    · obtain rfl := List.mem_singleton.mp hx; exact TGI.one TG.name
  · rcases List.mem_cons.mp hx with rfl | hx
    · exact compLook_upd (by rfl)
    · obtain rfl := List.mem_singleton.mp hx; exact compLook_upd (by rfl)
  · match i, hx, hr with
    | 0, hx, hr => obtain rfl := Option.some.inj hx; obtain rfl := Option.some.inj hr; exact EV.callF (EV.gk X) (.cons (EV.name rfl) (.cons (EV.name rfl) (.cons (EV.name rfl) (.cons (EV.name rfl) .nil)))) .nil (KP.Kk X) h1
    | 1, hx, hr => obtain rfl := Option.some.inj hx; obtain rfl := Option.some.inj hr; exact EV.callF (EV.gk X) (.cons (EV.name rfl) (.cons (EV.name rfl) (.cons (EV.name rfl) (.cons (EV.name rfl) .nil)))) .nil (KP.Kk X) h2
  refine EX.ifT (ET.eq (ET.cmp (EV.name (d := .str "o") rfl) EV.str CMP.eqStr) (by decide)) ?_
  refine EX.ret (d := .dict (rowOf (woF wo) ra rb)) ?_ rfl
  refine Eq.mp (congrArg (fun z => EV prg w (hkW w) H (n + 1) _ _ _ (.dict z)) (woItems_map (wo := wo) ra rb)) ?_
  refine EV.dictComp (items := woItems ra rb) (f := fun x l => match x with | .one (.tup [a, b]) => upds l ["name", "one"] [a, b] | _ => l) (g := woG wo) (by omega)
    (IT.tup (ds := [.tup [.str "p", ra], .tup [.str "q", rb]]) (EV.tup (.cons (EV.tup (.cons EV.str (.cons (EV.sub (EV.name (d := .list [ra, rb]) rfl) EV.int (GI.list (k := 0) rfl)) .nil)) (sz rfl)) (.cons (EV.tup (.cons EV.str (.cons (EV.sub (EV.name (d := .list [ra, rb]) rfl) EV.int (GI.list (k := 1) rfl)) .nil)) (sz rfl)) .nil)) (sz rfl)))
    (sz rfl) (.of (by rfl)) (fun x hx => ?_) (fun x hx => ?_) (fun x hx => ?_) (fun i x k d hx hg => ?_)
  · rcases List.mem_cons.mp hx with rfl | hx
    · exact TGI.one (TG.tup (xs := [("name", _), ("one", _)]) rfl (by intro x hx; simp at hx; rcases hx with rfl | rfl <;> exact .inl rfl))
    · obtain rfl := List.mem_singleton.mp hx
      exact TGI.one (TG.tup (xs := [("name", _), ("one", _)]) rfl (by intro x hx; simp at hx; rcases hx with rfl | rfl <;> exact .inl rfl))
  · rcases List.mem_cons.mp hx with rfl | hx
    · exact compLook_upds (by rfl) (by rfl)
    · obtain rfl := List.mem_singleton.mp hx; exact compLook_upds (by rfl) (by rfl)
  · rcases List.mem_cons.mp hx with rfl | hx
    · have e1 : woG wo (.one (.tup [.str "p", ra])) = if woF wo "p" then some (.str "p", ra) else Option.none := rfl
      rw [e1]
      cases hq : woF wo "p" with
      | true => exact ⟨.one (ET.eq (ET.woT rfl rfl) hq), EV.name rfl, EV.name rfl⟩
      | false => exact .one (ET.eq (ET.woT rfl rfl) hq)
    · obtain rfl := List.mem_singleton.mp hx
      have e1 : woG wo (.one (.tup [.str "q", rb])) = if woF wo "q" then some (.str "q", rb) else Option.none := rfl
      rw [e1]
      cases hq : woF wo "q" with
      | true => exact ⟨.one (ET.eq (ET.woT rfl rfl) hq), EV.name rfl, EV.name rfl⟩
      | false => exact .one (ET.eq (ET.woT rfl rfl) hq)
  · match i, hx with
    | 0, hx =>
      obtain rfl := Option.some.inj hx
      have e1 : woG wo (.one (.tup [.str "p", ra])) = if woF wo "p" then some (.str "p", ra) else Option.none := rfl
      rw [e1] at hg
      cases hq : woF wo "p" with
      | true => rw [hq] at hg; cases hg; exact KeyAt.of (by rfl)
      | false => rw [hq] at hg; cases hg
    | 1, hx =>
      obtain rfl := Option.some.inj hx
      have e1 : woG wo (.one (.tup [.str "q", rb])) = if woF wo "q" then some (.str "q", rb) else Option.none := rfl
      rw [e1] at hg
      have e2 : ((woItems ra rb).take 1).filterMap (woG wo) = if woF wo "p" then [(.str "p", ra)] else [] := by
        show List.filterMap (woG wo) [_] = _
        rw [List.filterMap_cons]
        have e1 : woG wo (.one (.tup [.str "p", ra])) = if woF wo "p" then some (.str "p", ra) else Option.none := rfl
        rw [e1]
        cases woF wo "p" <;> rfl
      rw [e2]
      cases hq : woF wo "q" with
      | true =>
        rw [hq] at hg; cases hg
        cases woF wo "p" <;> exact KeyAt.of (by rfl)
      | false => rw [hq] at hg; cases hg
theorem tab_seq (X : Env0 (KK w) H) {c : Str} {ds rs : List PD} (hc : c = "l" ∨ c = "u") (hz : ds.length ≤ sizeLine) (hlen : rs.length = ds.length)
    (hch : ∀ (i : Nat) x r, ds[i]? = some x → rs[i]? = some r → tabF w H (n + 1) keep tn wo x r) : tabF w H (n + 2) keep tn wo (.tup [.str c, .list ds]) (if (c == ("u" : Str)) && keep then .tup rs else .list rs) := by
  refine tab_begin X ?_
  have hc1 : ([("t" : Str), "0"].any (· == c)) = false := by rcases hc with rfl | rfl <;> decide
  have hc2 : (c == ("n" : Str)) = false := by rcases hc with rfl | rfl <;> decide
  have hc3 : (c == ("d" : Str)) = false := by rcases hc with rfl | rfl <;> decide
  have hc4 : (c == ("o" : Str)) = false := by rcases hc with rfl | rfl <;> decide
  refine EX.ifF (ET.eq (ET.cmp (EV.name (d := .str c) rfl) (EV.tup (ds := [("t" : Str), "0"].map .str) (.cons EV.str (.cons EV.str .nil))) CMP.inStrs) hc1) (EX.nil ?_)
  refine EX.ifF (ET.eq (ET.cmp (EV.name (d := .str c) rfl) EV.str CMP.eqStr) hc2) (EX.nil ?_)
  refine EX.ifF (ET.eq (ET.cmp (EV.name (d := .str c) rfl) EV.str CMP.eqStr) hc3) (EX.nil ?_)
  refine EX.assignCL (CP.listI (rs := rs) (items := ds.map .one) (f := fun x l => match x with | .one d => upd l "part" d | _ => l) (IT.list (EV.name rfl)) (by rw [List.length_map]; exact hz) (.of (by rfl)) (by rw [List.length_map]; exact hlen) (fun x hx => ?_) (fun x hx => ?_) (fun i x r hx hr => ?_)) ?_
  · obtain ⟨d, _, rfl⟩ := List.mem_map.mp hx; exact TGI.one TG.name
  · obtain ⟨d, _, rfl⟩ := List.mem_map.mp hx; exact compLook_upd (by rfl)
  · rw [List.getElem?_map] at hx
    obtain ⟨d, hd, rfl⟩ := Option.map_eq_some_iff.mp hx
    exact EV.callF (EV.gk X) (.cons (EV.name rfl) (.cons (EV.name rfl) (.cons (EV.name rfl) (.cons (EV.name rfl) .nil)))) .nil (KP.Kk X) (hch i d r hd hr)
  refine EX.ifF (ET.eq (ET.cmp (EV.name (d := .str c) rfl) EV.str CMP.eqStr) hc4) (EX.nil ?_)
  refine EX.ret (d := if (c == ("u" : Str)) && keep then .tup rs else .list rs) ?_ rfl
  have hz' : rs.length ≤ sizeLine := hlen ▸ hz
  cases hu : c == ("u" : Str) with
  | false => exact EV.ifF (ET.bool (EB.andF (ET.eq (ET.cmp (EV.name (d := .str c) rfl) EV.str CMP.eqStr) hu))) (EV.name rfl)
  | true =>
    cases keep with
    | false => exact EV.ifF (ET.bool (EB.andT (ET.eq (ET.cmp (EV.name (d := .str c) rfl) EV.str CMP.eqStr) hu) (EB.andF (ET.val (EV.name rfl) (.bool _))))) (EV.name rfl)
    | true => exact EV.ifT (ET.bool (EB.andT (ET.eq (ET.cmp (EV.name (d := .str c) rfl) EV.str CMP.eqStr) hu) (EB.andT (ET.val (EV.name rfl) (.bool _)) EB.andNil))) (EV.callF (EV.bk X) (.cons (EV.name rfl) .nil) .nil KP.type (FN.tupleOf hz'))
end
end Mine
end

section -- L6
open PySem PySem.Calls PySem.W PyProof.Rows PySem.SeqAt PySem.MeetsSeq
set_option maxRecDepth 100000
set_option linter.unusedVariables false
namespace Mine
section
variable {w : World} {H : Heap} {n : Nat} {k : Addr} {u v : PD} {F : Fm} {look : Look} {hk : PD → Int} {keep tn : Bool} {wo : Str}
/-- the drawing told as a table -/
theorem table_spec (X : Env0 (KK w) H) : ∀ m t, ht t ≤ m → WT t → tabF w H (10 * m + 10) keep tn wo (drawP t) (tell keep (woF wo) tn t) := by
  have atoms : ∀ t, ht t = 0 → tabF w H 10 keep tn wo (drawP t) (tell keep (woF wo) tn t) := fun t h0 => by
    match t, h0 with
    | .n i, _ => rw [drawP, tell]; exact tab_n (n := 9) X
    | .t x, _ => rw [drawP, tell]; exact FN.weak (tab_tz (n := 9) X (by decide)) fun L v h => by cases h; exact .str _ _
    | .z, _ => rw [drawP, tell]; exact tab_tz (n := 9) X (by decide)
    | .l ts, h => rw [ht] at h; omega
    | .u ts, h => rw [ht] at h; omega
    | .o a b, h => rw [ht] at h; omega
    | .d ks ts, h => rw [ht] at h; omega
  intro m
  induction m with
  | zero =>
    intro t hh hw
    exact atoms t (by omega)
  | succ m IH =>
    intro t hh hw
    have kid : ∀ ts : List T, htL ts ≤ m → WTL ts → ∀ (i : Nat) x r, (drawL ts)[i]? = some x → (tellL keep (woF wo) tn ts)[i]? = some r → tabF w H (10 * m + 10) keep tn wo x r := fun ts h1 h2 i x r hx hr => by
      rw [drawL_map, List.getElem?_map] at hx
      rw [tellL_map, List.getElem?_map] at hr
      obtain ⟨t, ht', rfl⟩ := Option.map_eq_some_iff.mp hx
      rw [ht'] at hr
      obtain rfl := Option.some.inj hr
      have hm := List.mem_of_getElem? ht'
      exact IH t (by have := htL_mem t hm; omega) (WTL_mem h2 t hm)
    match t, hh, hw with
    | .n i, _, _ => exact FN.le (atoms _ (by simp [ht])) (by omega)
    | .t x, _, _ => exact FN.le (atoms _ (by simp [ht])) (by omega)
    | .z, _, _ => exact FN.le (atoms _ (by simp [ht])) (by omega)
    | .l ts, hh, hw =>
      rw [ht] at hh; rw [WT] at hw; rw [drawP, tell]
      exact FN.le (tab_seq (n := 10 * m + 9) (c := "l") X (.inl rfl) (by rw [drawL_map, List.length_map]; exact Nat.le_trans hw.2 (sz rfl)) (by rw [drawL_map, tellL_map, List.length_map, List.length_map]) (kid ts (by omega) hw.1)) (by omega)
    | .u ts, hh, hw =>
      rw [ht] at hh; rw [WT] at hw; rw [drawP, tell]
      exact FN.le (tab_seq (n := 10 * m + 9) (c := "u") X (.inr rfl) (by rw [drawL_map, List.length_map]; exact Nat.le_trans hw.2 (sz rfl)) (by rw [drawL_map, tellL_map, List.length_map, List.length_map]) (kid ts (by omega) hw.1)) (by omega)
    | .o a b, hh, hw =>
      rw [ht] at hh; rw [WT] at hw; rw [drawP, tell]
      exact FN.le (tab_o (n := 10 * m + 9) X (IH a (by omega) hw.1) (IH b (by omega) hw.2)) (by omega)
    | .d ks ts, hh, hw =>
      rw [ht] at hh; rw [WT] at hw
      obtain ⟨w1, w2, w3⟩ := hw
      rw [drawP, tell]
      have la : ks.length = (drawL ts).length := by rw [drawL_map, List.length_map]; exact w2
      have lb : ks.length = (tellL keep (woF wo) tn ts).length := by rw [tellL_map, List.length_map]; exact w2
      have lk : ks.length ≤ 2 := ks_cases (P := fun ks _ => ks.length ≤ 2) (Nat.zero_le _) (fun _ _ _ => by simp) (fun _ _ _ _ => by simp) ks w3 _ la
      refine FN.le (tab_dict (n := 10 * m + 9) X ?_ ?_ (ks_idx ks w3 _ la) (ks_keys tn ks w3 _ lb) fun i e o he ho => ?_) (by omega)
      · rw [List.length_zip, ← la, Nat.min_self]; exact Nat.le_trans lk (sz rfl)
      · rw [List.length_zip, List.length_zip, List.length_map, ← la, ← lb]
      · obtain ⟨e1, e2⟩ := zip_at he
        obtain ⟨o1, o2⟩ := zip_at ho
        rw [List.getElem?_map, e1] at o1
        exact ⟨K3_mem ks w3 _ (List.mem_of_getElem? e1), (Option.some.inj o1).symm, kid ts (by omega) w1 i _ _ e2 o2⟩
/-- the word of a drawing's kind, and the rest -/
def kS : T → Str
  | .n _ => "n"
  | .t _ => "t"
  | .z => "0"
  | .l _ => "l"
  | .u _ => "u"
  | .o _ _ => "o"
  | .d _ _ => "d"
def drawV : T → PD
  | .n i => .intz i
  | .t x => .strz x
  | .z => .val .none
  | .l ts => .list (drawL ts)
  | .u ts => .list (drawL ts)
  | .o a b => .list [drawP a, drawP b]
  | .d ks ts => .list (keyed ks (drawL ts))
theorem drawP_eq : ∀ t, drawP t = .tup [.str (kS t), drawV t]
  | .n _ => by rw [drawP]; rfl
  | .t _ => by rw [drawP]; rfl
  | .z => by rw [drawP]; rfl
  | .l _ => by rw [drawP]; rfl
  | .u _ => by rw [drawP]; rfl
  | .o _ _ => by rw [drawP]; rfl
  | .d _ _ => by rw [drawP]; rfl
theorem kS_o : ∀ t, (kS t == ("o" : Str)) = isO t
  | .n _ => rfl
  | .t _ => rfl
  | .z => rfl
  | .l _ => rfl
  | .u _ => rfl
  | .o _ _ => rfl
  | .d _ _ => rfl
end
end Mine
end

section -- L7
open PySem PySem.Calls PySem.W PyProof.Rows PySem.SeqAt PySem.MeetsSeq
set_option maxRecDepth 100000
set_option linter.unusedVariables false
namespace Mine
section
variable {w : World} {H : Heap} {n : Nat} {k : Addr} {u v : PD} {F : Fm} {look : Look} {hk : PD → Int} {keep tn : Bool} {wo : Str}
abbrev tupKs (k : Addr) (keep : Bool) (wo : Str) (d : PD) : List PD := [d, .kind k, .val (.bool keep), .str wo]
abbrev tupF (w : World) (H : Heap) (n : Nat) (k : Addr) (keep : Bool) (wo : Str) (d r : PD) : Prop := FN prg w (hkW w) H n (.val (.ref 510)) (tupKs k keep wo d) [] r
abbrev lawLaid (w : World) (H : Heap) (n : Nat) (k : Addr) (d r : PD) : Prop := FN prg w (hkW w) H n (.val (.ref 500)) [d, .kind k] [] r
theorem tp_begin (X : Env0 (KK w) H) {c : Str} {d r : PD} (h : EX prg w (hkW w) H n ⟨(fdOf (KK w) 510).scope, some (codeOf (fdOf (KK w) 510)), .none⟩ ["made", "keep", "without"] (upds (fun z => ((["drawn", "made", "keep", "without"] : List Str).zip (tupKs k keep wo (.tup [.str c, d]))).lookup z) ["kind", "parts"] [.str c, d]) [] ((bodyOf (fdOf (KK w) 510)).drop 1) (Rets r)) : tupF w H (n + 1) k keep wo (.tup [.str c, d]) r := by
  refine FN.defK (names := ["drawn", "made", "keep", "without"]) (ds := tupKs k keep wo (.tup [.str c, d])) ["made", "keep", "without"] X rfl (BINDS.pos (len4 rfl fun a b c d => by kernel_rfl)) (by decide) rfl ?_
  exact EX.unpack (xs := [("kind", _), ("parts", _)]) (EV.name rfl) h (by intro x hx; simp at hx; rcases hx with rfl | rfl <;> exact .inl rfl)
theorem tp_atom (X : Env0 (KK w) H) {c : Str} {d : PD} (hc : c = "n" ∨ c = "t" ∨ c = "0") : tupF w H (n + 1) k keep wo (.tup [.str c, d]) d := by
  refine tp_begin X ?_
  have h1 : (c == ("o" : Str)) = false := by rcases hc with rfl | rfl | rfl <;> decide
  have h2 : ([("l" : Str), "u"].any (· == c)) = false := by rcases hc with rfl | rfl | rfl <;> decide
  have h3 : (c == ("d" : Str)) = false := by rcases hc with rfl | rfl | rfl <;> decide
  refine EX.ifF (ET.eq (ET.cmp (EV.name (d := .str c) rfl) EV.str CMP.eqStr) h1) (EX.nil ?_)
  refine EX.ifF (ET.eq (ET.cmp (EV.name (d := .str c) rfl) (EV.tup (ds := [("l" : Str), "u"].map .str) (.cons EV.str (.cons EV.str .nil))) CMP.inStrs) h2) (EX.nil ?_)
  refine EX.ifF (ET.eq (ET.cmp (EV.name (d := .str c) rfl) EV.str CMP.eqStr) h3) (EX.nil ?_)
  exact EX.ret (EV.name rfl) rfl
/-- one part, told or laid -/
def PartR (w : World) (H : Heap) (n : Nat) (k : Addr) (keep : Bool) (wo : Str) (d r : PD) : Prop := ∃ t, d = drawP t ∧ (isO t = true → tupF w H n k keep wo d r) ∧ (isO t = false → lawLaid w H n k d r)
theorem tp_seq (X : Env0 (KK w) H) {c : Str} {ds rs : List PD} (hc : c = "l" ∨ c = "u") (hz : ds.length ≤ sizeLine) (hlen : rs.length = ds.length)
    (hch : ∀ (i : Nat) x r, ds[i]? = some x → rs[i]? = some r → PartR w H (n + 1) k keep wo x r) : tupF w H (n + 2) k keep wo (.tup [.str c, .list ds]) (if (c == ("u" : Str)) && keep then .tup rs else .list rs) := by
  refine tp_begin X ?_
  have h1 : (c == ("o" : Str)) = false := by rcases hc with rfl | rfl <;> decide
  have h2 : ([("l" : Str), "u"].any (· == c)) = true := by rcases hc with rfl | rfl <;> decide
  refine EX.ifF (ET.eq (ET.cmp (EV.name (d := .str c) rfl) EV.str CMP.eqStr) h1) (EX.nil ?_)
  refine EX.ifT (ET.eq (ET.cmp (EV.name (d := .str c) rfl) (EV.tup (ds := [("l" : Str), "u"].map .str) (.cons EV.str (.cons EV.str .nil))) CMP.inStrs) h2) ?_
  refine EX.assignCL (CP.listI (rs := rs) (items := ds.map .one) (f := fun x l => match x with | .one d => upd l "part" d | _ => l) (IT.list (EV.name rfl)) (by rw [List.length_map]; exact hz) (.of (by rfl)) (by rw [List.length_map]; exact hlen) (fun x hx => ?_) (fun x hx => ?_) (fun i x r hx hr => ?_)) ?_
  · obtain ⟨d, _, rfl⟩ := List.mem_map.mp hx; exact TGI.one TG.name
  · obtain ⟨d, _, rfl⟩ := List.mem_map.mp hx; exact compLook_upd (by rfl)
  · rw [List.getElem?_map] at hx
    obtain ⟨d, hd, rfl⟩ := Option.map_eq_some_iff.mp hx
    obtain ⟨t, rfl, h3, h4⟩ := hch i d r hd hr
    cases ho : isO t with
    | true => exact EV.ifT (ET.eq (ET.cmp (EV.sub (EV.name (d := drawP t) rfl) EV.int (drawP_eq t ▸ GI.tup (k := 0) rfl)) EV.str CMP.eqStr) ((kS_o t).trans ho)) (EV.callF (EV.gk X) (.cons (EV.name rfl) (.cons (EV.name rfl) (.cons (EV.name rfl) (.cons (EV.name rfl) .nil)))) .nil (KP.Kk X) (h3 ho))
    | false => exact EV.ifF (ET.eq (ET.cmp (EV.sub (EV.name (d := drawP t) rfl) EV.int (drawP_eq t ▸ GI.tup (k := 0) rfl)) EV.str CMP.eqStr) ((kS_o t).trans ho)) (EV.callF (EV.gk X) (.cons (EV.name rfl) (.cons (EV.name rfl) .nil)) .nil (KP.Kk X) (h4 ho))
  refine EX.ret (d := if (c == ("u" : Str)) && keep then .tup rs else .list rs) ?_ rfl
  have hz' : rs.length ≤ sizeLine := hlen ▸ hz
  cases hu : c == ("u" : Str) with
  | false => exact EV.ifF (ET.bool (EB.andF (ET.eq (ET.cmp (EV.name (d := .str c) rfl) EV.str CMP.eqStr) hu))) (EV.name rfl)
  | true =>
    cases keep with
    | false => exact EV.ifF (ET.bool (EB.andT (ET.eq (ET.cmp (EV.name (d := .str c) rfl) EV.str CMP.eqStr) hu) (EB.andF (ET.val (EV.name rfl) (.bool _))))) (EV.name rfl)
    | true => exact EV.ifT (ET.bool (EB.andT (ET.eq (ET.cmp (EV.name (d := .str c) rfl) EV.str CMP.eqStr) hu) (EB.andT (ET.val (EV.name rfl) (.bool _)) EB.andNil))) (EV.callF (EV.bk X) (.cons (EV.name rfl) .nil) .nil KP.type (FN.tupleOf hz'))
theorem tp_dict (X : Env0 (KK w) H) {es out : List (PD × PD)} (hsz : es.length ≤ sizeLine) (hlen : out.length = es.length) (hidx : ∀ (i : Nat) e, es[i]? = some e → (es.findIdx fun y => keyEq y.1 e.1) = i) (hkeys : ∀ (i : Nat) o, out[i]? = some o → KeyAt (out.take i) o.1 .none)
    (hch : ∀ (i : Nat) e o, es[i]? = some e → out[i]? = some o → o.1 = e.1 ∧ PartR w H (n + 1) k keep "" e.2 o.2) : tupF w H (n + 2) k keep wo (.tup [.str "d", .list (es.map fun p => .tup [p.1, p.2])]) (.dict out) := by
  refine tp_begin X ?_
  refine EX.ifF (ET.eq (ET.cmp (EV.name (d := .str "d") rfl) EV.str CMP.eqStr) (by decide)) (EX.nil ?_)
  refine EX.ifF (ET.eq (ET.cmp (EV.name (d := .str "d") rfl) (EV.tup (ds := [("l" : Str), "u"].map .str) (.cons EV.str (.cons EV.str .nil))) CMP.inStrs) (by decide)) (EX.nil ?_)
  refine EX.ifT (ET.eq (ET.cmp (EV.name (d := .str "d") rfl) EV.str CMP.eqStr) (by decide)) ?_
  refine EX.ret (d := .dict out) ?_ rfl
  refine EV.keyedComp (by omega) (EV.name rfl) hsz (by rfl) (by rfl) (by rfl) (by rfl) (by rfl) hlen hidx hkeys fun i e o he ho => ?_
  obtain ⟨h1, t, ht, h3, h4⟩ := hch i e o he ho
  refine ⟨h1 ▸ EV.name rfl, ?_⟩
  have hp : GI prg w H (n + 1) e.2 (.int 0) (.str (kS t)) := by rw [ht, drawP_eq]; exact GI.tup (k := 0) rfl
  cases hO : isO t with
  | true => exact EV.ifT (ET.eq (ET.cmp (EV.sub (EV.name (d := e.2) rfl) EV.int hp) EV.str CMP.eqStr) ((kS_o t).trans hO)) (EV.callF (EV.gk X) (.cons (EV.name rfl) (.cons (EV.name rfl) (.cons (EV.name rfl) (.cons EV.str .nil)))) .nil (KP.Kk X) (h3 hO))
  | false => exact EV.ifF (ET.eq (ET.cmp (EV.sub (EV.name (d := e.2) rfl) EV.int hp) EV.str CMP.eqStr) ((kS_o t).trans hO)) (EV.callF (EV.gk X) (.cons (EV.name rfl) (.cons (EV.name rfl) .nil)) .nil (KP.Kk X) (h4 hO))
end
end Mine
end

section -- L8
open PySem PySem.Calls PySem.W PyProof.Rows PySem.SeqAt PySem.MeetsSeq
set_option maxRecDepth 100000
set_option linter.unusedVariables false
namespace Mine
mutual
theorem tupT_congr {keep : Bool} {k : Addr} {wo wo' : Str → Bool} (hp : wo "p" = wo' "p") (hq : wo "q" = wo' "q") : ∀ t, tupT keep k wo t = tupT keep k wo' t
  | .n i => by rw [tupT, tupT]
  | .t x => by rw [tupT, tupT]
  | .z => by rw [tupT, tupT]
  | .l ts => by rw [tupT, tupT, tupE_congr hp hq ts]
  | .u ts => by rw [tupT, tupT, tupE_congr hp hq ts]
  | .o a b => by rw [tupT, tupT, tupT_congr hp hq a, tupT_congr hp hq b, rowT, rowT, hp, hq]
  | .d ks ts => by rw [tupT, tupT]
theorem tupE_congr {keep : Bool} {k : Addr} {wo wo' : Str → Bool} (hp : wo "p" = wo' "p") (hq : wo "q" = wo' "q") : ∀ ts, tupE keep k wo ts = tupE keep k wo' ts
  | [] => by rw [tupE, tupE]
  | x :: r => by rw [tupE, tupE, tupT_congr hp hq x, tupE_congr hp hq r]
end
section
variable {w : World} {H : Heap} {n : Nat} {k : Addr} {u v : PD} {F : Fm} {look : Look} {hk : PD → Int} {keep tn : Bool} {wo : Str}
def woH (wo : Str) (ra rb : PD) : Item → Option PD
  | .one (.tup [.str y, _]) => if woF wo y then some (if y == "p" then ra else rb) else Option.none
  | _ => Option.none
theorem woH_p (ra rb a : PD) : woH wo ra rb (.one (.tup [.str "p", a])) = if woF wo "p" then some ra else Option.none := rfl
theorem woH_q (ra rb b : PD) : woH wo ra rb (.one (.tup [.str "q", b])) = if woF wo "q" then some rb else Option.none := rfl
theorem woH_map (a b ra rb : PD) : (woItems a b).filterMap (woH wo ra rb) = rowT (woF wo) ra rb := by
  unfold rowT
  show (List.filterMap (woH wo ra rb) [_, _]) = _
  rw [List.filterMap_cons, List.filterMap_cons, woH_p, woH_q]
  cases woF wo "p" <;> cases woF wo "q" <;> rfl
theorem tp_o (X : Env0 (KK w) H) {a b ra rb : PD} (h1 : woF wo "p" = true → tupF w H (n + 1) k keep wo a ra) (h2 : woF wo "q" = true → tupF w H (n + 1) k keep wo b rb) : tupF w H (n + 2) k keep wo (.tup [.str "o", .list [a, b]]) (.tup (rowT (woF wo) ra rb)) := by
  refine tp_begin X ?_
  refine EX.ifT (ET.eq (ET.cmp (EV.name (d := .str "o") rfl) EV.str CMP.eqStr) (by decide)) ?_
  have hz : (rowT (woF wo) ra rb).length ≤ sizeLine := by
    refine Nat.le_trans (m := 2) ?_ (sz rfl)
    unfold rowT; cases woF wo "p" <;> cases woF wo "q" <;> simp
  refine EX.ret (d := .tup (rowT (woF wo) ra rb)) (EV.callF (EV.bk X) (.cons (d := .list (rowT (woF wo) ra rb)) ?_ .nil) .nil KP.type (FN.tupleOf hz)) rfl
  refine Eq.mp (congrArg (fun z => EV prg w (hkW w) H (n + 1) _ _ _ (.list z)) (woH_map (wo := wo) a b ra rb)) ?_
  refine EV.listComp (items := woItems a b) (f := fun x l => match x with | .one (.tup [a, b]) => upds l ["name", "part"] [a, b] | _ => l) (g := woH wo ra rb)
    (IT.tup (ds := [.tup [.str "p", a], .tup [.str "q", b]]) (EV.tup (.cons (EV.tup (.cons EV.str (.cons (EV.sub (EV.name (d := .list [a, b]) rfl) EV.int (GI.list (k := 0) rfl)) .nil)) (sz rfl)) (.cons (EV.tup (.cons EV.str (.cons (EV.sub (EV.name (d := .list [a, b]) rfl) EV.int (GI.list (k := 1) rfl)) .nil)) (sz rfl)) .nil)) (sz rfl)))
    (sz rfl) (.of (by rfl)) (fun x hx => ?_) (fun x hx => ?_) (fun x hx => ?_)
  · rcases List.mem_cons.mp hx with rfl | hx
    · exact TGI.one (TG.tup (xs := [("name", _), ("part", _)]) rfl (by intro x hx; simp at hx; rcases hx with rfl | rfl <;> exact .inl rfl))
    · obtain rfl := List.mem_singleton.mp hx
      exact TGI.one (TG.tup (xs := [("name", _), ("part", _)]) rfl (by intro x hx; simp at hx; rcases hx with rfl | rfl <;> exact .inl rfl))
  · rcases List.mem_cons.mp hx with rfl | hx
    · exact compLook_upds (by rfl) (by rfl)
    · obtain rfl := List.mem_singleton.mp hx; exact compLook_upds (by rfl) (by rfl)
  · rcases List.mem_cons.mp hx with rfl | hx
    · rw [woH_p]
      cases hq : woF wo "p" with
      | true => exact ⟨.one (ET.eq (ET.woT rfl rfl) hq), EV.callF (EV.gk X) (.cons (EV.name rfl) (.cons (EV.name rfl) (.cons (EV.name rfl) (.cons (EV.name rfl) .nil)))) .nil (KP.Kk X) (h1 hq)⟩
      | false => exact .one (ET.eq (ET.woT rfl rfl) hq)
    · obtain rfl := List.mem_singleton.mp hx
      rw [woH_q]
      cases hq : woF wo "q" with
      | true => exact ⟨.one (ET.eq (ET.woT rfl rfl) hq), EV.callF (EV.gk X) (.cons (EV.name rfl) (.cons (EV.name rfl) (.cons (EV.name rfl) (.cons (EV.name rfl) .nil)))) .nil (KP.Kk X) (h2 hq)⟩
      | false => exact .one (ET.eq (ET.woT rfl rfl) hq)
/-- the drawing told as a tuple -/
theorem tuple_spec (X : Env0 (KK w) H) : ∀ m t wo, ht t ≤ m → WT t → tupF w H (10 * m + 10) k keep wo (drawP t) (tupT keep k (woF wo) t) := by
  have atoms : ∀ t wo, ht t = 0 → tupF w H 10 k keep wo (drawP t) (tupT keep k (woF wo) t) := fun t wo h0 => by
    match t, h0 with
    | .n i, _ => rw [drawP, tupT]; exact FN.weak (tp_atom (n := 9) X (.inl rfl)) fun L v h => by cases h; exact .int _ _
    | .t x, _ => rw [drawP, tupT]; exact FN.weak (tp_atom (n := 9) X (.inr (.inl rfl))) fun L v h => by cases h; exact .str _ _
    | .z, _ => rw [drawP, tupT]; exact tp_atom (n := 9) X (.inr (.inr rfl))
    | .l ts, h => rw [ht] at h; omega
    | .u ts, h => rw [ht] at h; omega
    | .o a b, h => rw [ht] at h; omega
    | .d ks ts, h => rw [ht] at h; omega
  intro m
  induction m with
  | zero =>
    intro t wo hh hw
    exact atoms t wo (by omega)
  | succ m IH =>
    intro t wo hh hw
    have kid : ∀ wo (ts : List T), htL ts ≤ m → WTL ts → ∀ (i : Nat) x r, (drawL ts)[i]? = some x → (tupE keep k (woF wo) ts)[i]? = some r → PartR w H (10 * m + 10) k keep wo x r := fun wo ts h1 h2 i x r hx hr => by
      rw [drawL_map, List.getElem?_map] at hx
      rw [tupE_map, List.getElem?_map] at hr
      obtain ⟨t, ht', rfl⟩ := Option.map_eq_some_iff.mp hx
      rw [ht'] at hr
      obtain rfl := Option.some.inj hr
      have hm := List.mem_of_getElem? ht'
      have hh' : ht t ≤ m := by have := htL_mem t hm; omega
      refine ⟨t, rfl, fun ho => ?_, fun ho => ?_⟩
      · simp only [ho, if_true]; exact IH t wo hh' (WTL_mem h2 t hm)
      · simp only [ho, Bool.false_eq_true, if_false]
        exact FN.weak (laid_spec X m t hh' (WTL_mem h2 t hm)) fun L v i => Is.unz t i
    match t, hh, hw with
    | .n i, _, _ => exact FN.le (atoms _ _ (by simp [ht])) (by omega)
    | .t x, _, _ => exact FN.le (atoms _ _ (by simp [ht])) (by omega)
    | .z, _, _ => exact FN.le (atoms _ _ (by simp [ht])) (by omega)
    | .l ts, hh, hw =>
      rw [ht] at hh; rw [WT] at hw; rw [drawP, tupT]
      exact FN.le (tp_seq (n := 10 * m + 9) (c := "l") X (.inl rfl) (by rw [drawL_map, List.length_map]; exact Nat.le_trans hw.2 (sz rfl)) (by rw [drawL_map, tupE_map, List.length_map, List.length_map]) (kid wo ts (by omega) hw.1)) (by omega)
    | .u ts, hh, hw =>
      rw [ht] at hh; rw [WT] at hw; rw [drawP, tupT]
      exact FN.le (tp_seq (n := 10 * m + 9) (c := "u") X (.inr rfl) (by rw [drawL_map, List.length_map]; exact Nat.le_trans hw.2 (sz rfl)) (by rw [drawL_map, tupE_map, List.length_map, List.length_map]) (kid wo ts (by omega) hw.1)) (by omega)
    | .o a b, hh, hw =>
      rw [ht] at hh; rw [WT] at hw; rw [drawP, tupT]
      exact FN.le (tp_o (n := 10 * m + 9) X (fun _ => IH a wo (by omega) hw.1) (fun _ => IH b wo (by omega) hw.2)) (by omega)
    | .d ks ts, hh, hw =>
      rw [ht] at hh; rw [WT] at hw
      obtain ⟨w1, w2, w3⟩ := hw
      rw [drawP, tupT]
      have ew : tupE keep k (fun _ => true) ts = tupE keep k (woF "") ts := tupE_congr (wo := fun _ => true) (wo' := woF "") (by decide) (by decide) ts
      rw [ew]
      have la : ks.length = (drawL ts).length := by rw [drawL_map, List.length_map]; exact w2
      have lb : ks.length = (tupE keep k (woF "") ts).length := by rw [tupE_map, List.length_map]; exact w2
      have lk : ks.length ≤ 2 := ks_cases (P := fun ks _ => ks.length ≤ 2) (Nat.zero_le _) (fun _ _ _ => by simp) (fun _ _ _ _ => by simp) ks w3 _ la
      have kk := ks_keys false ks w3 _ lb
      have e0 : ks.map (keyT false) = ks := by
        have : keyT false = id := rfl
        rw [this, List.map_id]
      rw [e0] at kk
      refine FN.le (tp_dict (n := 10 * m + 9) X ?_ ?_ (ks_idx ks w3 _ la) kk fun i e o he ho => ?_) (by omega)
      · rw [List.length_zip, ← la, Nat.min_self]; exact Nat.le_trans lk (sz rfl)
      · rw [List.length_zip, List.length_zip, ← la, ← lb]
      · obtain ⟨e1, e2⟩ := zip_at he
        obtain ⟨o1, o2⟩ := zip_at ho
        rw [e1] at o1
        exact ⟨(Option.some.inj o1).symm, kid "" ts (by omega) w1 i _ _ e2 o2⟩
end
end Mine
end

section -- Q5
open PySem PySem.Calls PySem.W PyProof.Rows
set_option maxRecDepth 100000
set_option linter.unusedVariables false
namespace Mine
theorem ks_self (tn : Bool) : ∀ ks ∈ KS, ∀ A : List PD, ks.length = A.length → ∀ (i : Nat) o, ((ks.map (keyT tn)).zip A)[i]? = some o → KeyAt ((ks.map (keyT tn)).zip A) o.1 (some i) := by
  refine ks_cases (by intro i e h; simp at h) (fun k hk a i e h => ?_) (fun k hk a b i e h => ?_)
  · match i, h with
    | 0, h =>
      obtain rfl := Option.some.inj h
      simp only [K3, List.mem_cons, List.not_mem_nil, or_false] at hk
      cases tn <;> rcases hk with rfl | rfl | rfl <;> exact KeyAt.of (by rfl)
  · match i, h with
    | 0, h =>
      obtain rfl := Option.some.inj h
      simp only [K3, List.mem_cons, List.not_mem_nil, or_false] at hk
      cases tn <;> rcases hk with rfl | rfl | rfl <;> exact KeyAt.of (by rfl)
    | 1, h =>
      obtain rfl := Option.some.inj h
      simp only [K3, List.mem_cons, List.not_mem_nil, or_false] at hk
      cases tn <;> rcases hk with rfl | rfl | rfl <;> exact KeyAt.of (by rfl)
theorem ks_self0 {ks : List PD} (h : ks ∈ KS) {A : List PD} (hl : ks.length = A.length) (i : Nat) (o : PD × PD) (ho : (ks.zip A)[i]? = some o) : KeyAt (ks.zip A) o.1 (some i) := by
  have e : ks.map (keyT false) = ks := by
    have : keyT false = id := rfl
    rw [this, List.map_id]
  have := ks_self false ks h A hl i o
  rw [e] at this
  exact this ho
theorem row_self {c1 c2 : Bool} {a b : PD} (i : Nat) (x : PD × PD) (hx : ((if c1 then [((.str "p" : PD), a)] else []) ++ (if c2 then [((.str "q" : PD), b)] else []))[i]? = some x) : KeyAt ((if c1 then [((.str "p" : PD), a)] else []) ++ (if c2 then [((.str "q" : PD), b)] else [])) x.1 (some i) := by
  cases c1 <;> cases c2
  · simp at hx
  · match i, hx with
    | 0, hx => obtain rfl := Option.some.inj hx; exact .of (by rfl)
  · match i, hx with
    | 0, hx => obtain rfl := Option.some.inj hx; exact .of (by rfl)
  · match i, hx with
    | 0, hx => obtain rfl := Option.some.inj hx; exact .of (by rfl)
    | 1, hx => obtain rfl := Option.some.inj hx; exact .of (by rfl)
section
variable {w : World} {H : Heap} {n m : Nat} {k : Addr} {p q d : PD} {hk : PD → Int} {keep tn : Bool} {wo : Str → Bool}
/-- equal both ways -/
def EQ2 (w : World) (H : Heap) (n : Nat) (d : PD) : Prop := RCJ prg w (hkW w) H n .Eq d true ∧ EQJ prg w (hkW w) H n d
theorem EQ2.le (h : EQ2 w H n d) (hn : n ≤ m) : EQ2 w H m d := ⟨h.1.le hn, h.2.le hn⟩
theorem EQ2.int {i : Int} : EQ2 w H n (.int i) := ⟨fun A s L u v ok inv led iu iv => by
  have := CMP.eqInt (prog := prg) (w := w) (hk := hkW w) (H := H) (n := n) (x := i) (y := i) A s L u v ok inv led iu iv
  rw [beq_self_eq_true] at this
  exact this, .int⟩
theorem EQ2.str {x : Str} : EQ2 w H n (.str x) := ⟨fun A s L u v ok inv led iu iv => by
  have := CMP.eqStr (prog := prg) (w := w) (hk := hkW w) (H := H) (n := n) (x := x) (y := x) A s L u v ok inv led iu iv
  rw [beq_self_eq_true] at this
  exact this, .str⟩
theorem EQ2.none : EQ2 w H n (.val .none) := ⟨fun A s L u v ok inv led iu iv => by
  cases iu; cases iv
  exact EqNone.eq_none_none ⟨rfl, .refl inv⟩, .val⟩
theorem EQ2.list {ds : List PD} (h : ∀ d ∈ ds, EQ2 w H n d) : EQ2 w H (n + 1) (.list ds) := ⟨.listEq fun d hd => (h d hd).2, .list fun d hd => (h d hd).2⟩
theorem EQ2.tup {ds : List PD} (h : ∀ d ∈ ds, EQ2 w H n d) : EQ2 w H (n + 1) (.tup ds) := ⟨.tupEq fun d hd => (h d hd).2, .tup fun d hd => (h d hd).2⟩
theorem EQ2.dict {xs : List (PD × PD)} (hkey : ∀ (i : Nat) x, xs[i]? = some x → KeyAt xs x.1 (some i)) (h : ∀ x ∈ xs, EQ2 w H n x.2) : EQ2 w H (n + 1) (.dict xs) := ⟨.dict (.inl ⟨rfl, rfl⟩) hkey fun x hx => (h x hx).2, .dict hkey fun x hx => (h x hx).2⟩
theorem EQ2.obj (X : Env0 (KK w) H) (hp : EQ2 w H (n + 3) p) (hq : EQ2 w H (n + 3) q) : EQ2 w H (n + 4) (.obj k p q) := ⟨.obj X hp.1 hq.1, .ofRc (fun L v i => by cases i; exact ⟨_, rfl⟩) (.obj X hp.1 hq.1)⟩
theorem zip_mem {A B : List PD} {x : PD × PD} (h : x ∈ A.zip B) : x.2 ∈ B := (List.of_mem_zip h).2
theorem eq_laid (X : Env0 (KK w) H) : ∀ m t, ht t ≤ m → WT t → EQ2 w H (4 * m + 4) (laid k t) := by
  intro m
  induction m with
  | zero =>
    intro t hh hw
    cases t with
    | n i => rw [laid]; exact .int
    | t x => rw [laid]; exact .str
    | z => rw [laid]; exact .none
    | _ => simp [ht] at hh
  | succ m IH =>
    intro t hh hw
    have mem : ∀ ts : List T, htL ts ≤ m → WTL ts → ∀ d ∈ laidL k ts, EQ2 w H (4 * m + 4) d := fun ts h1 h2 d hd => by
      rw [laidL_map] at hd
      obtain ⟨x, hx, rfl⟩ := List.mem_map.mp hd
      exact IH x (Nat.le_trans (htL_mem x hx) h1) (WTL_mem h2 x hx)
    cases t with
    | n i => rw [laid]; exact .int
    | t x => rw [laid]; exact .str
    | z => rw [laid]; exact .none
    | l ts =>
      rw [ht] at hh; rw [WT] at hw; rw [laid]
      exact (EQ2.list (mem ts (by omega) hw.1)).le (by omega)
    | u ts =>
      rw [ht] at hh; rw [WT] at hw; rw [laid]
      exact (EQ2.tup (mem ts (by omega) hw.1)).le (by omega)
    | o a b =>
      rw [ht] at hh; rw [WT] at hw; rw [laid]
      exact (EQ2.obj (n := 4 * m + 1) X (IH a (by omega) hw.1) (IH b (by omega) hw.2)).le (by omega)
    | d ks ts =>
      rw [ht] at hh; rw [WT] at hw; rw [laid]
      refine (EQ2.dict (fun i x hx => ks_self0 hw.2.2 (by rw [laidL_map, List.length_map]; exact hw.2.1) i x hx) fun x hx => mem ts (by omega) hw.1 _ (zip_mem hx)).le (by omega)
theorem eq_tell (X : Env0 (KK w) H) : ∀ m t, ht t ≤ m → WT t → EQ2 w H (4 * m + 4) (tell keep wo tn t) := by
  have hi : ∀ n i, EQ2 w H n (keyT tn (.int i)) := fun n i => by
    cases tn
    · exact .int
    · exact .int
  intro m
  induction m with
  | zero =>
    intro t hh hw
    cases t with
    | n i => rw [tell]; exact hi _ _
    | t x => rw [tell]; exact .str
    | z => rw [tell]; exact .none
    | _ => simp [ht] at hh
  | succ m IH =>
    intro t hh hw
    have mem : ∀ ts : List T, htL ts ≤ m → WTL ts → ∀ d ∈ tellL keep wo tn ts, EQ2 w H (4 * m + 4) d := fun ts h1 h2 d hd => by
      rw [tellL_map] at hd
      obtain ⟨x, hx, rfl⟩ := List.mem_map.mp hd
      exact IH x (Nat.le_trans (htL_mem x hx) h1) (WTL_mem h2 x hx)
    cases t with
    | n i => rw [tell]; exact hi _ _
    | t x => rw [tell]; exact .str
    | z => rw [tell]; exact .none
    | l ts =>
      rw [ht] at hh; rw [WT] at hw; rw [tell]
      exact (EQ2.list (mem ts (by omega) hw.1)).le (by omega)
    | u ts =>
      rw [ht] at hh; rw [WT] at hw; rw [tell]
      cases keep
      · exact (EQ2.list (mem ts (by omega) hw.1)).le (by omega)
      · exact (EQ2.tup (mem ts (by omega) hw.1)).le (by omega)
    | o a b =>
      rw [ht] at hh; rw [WT] at hw; rw [tell]
      refine (EQ2.dict row_self fun x hx => ?_).le (show 4 * m + 4 + 1 ≤ _ by omega)
      rcases List.mem_append.mp hx with h | h
      · split at h
        · obtain rfl := List.mem_singleton.mp h; exact IH a (by omega) hw.1
        · cases h
      · split at h
        · obtain rfl := List.mem_singleton.mp h; exact IH b (by omega) hw.2
        · cases h
    | d ks ts =>
      rw [ht] at hh; rw [WT] at hw; rw [tell]
      refine (EQ2.dict (fun i x hx => ks_self tn ks hw.2.2 _ (by rw [tellL_map, List.length_map]; exact hw.2.1) i x hx) fun x hx => mem ts (by omega) hw.1 _ (zip_mem hx)).le (by omega)
theorem eq_tupT (X : Env0 (KK w) H) : ∀ m t wo, ht t ≤ m → WT t → EQ2 w H (4 * m + 4) (tupT keep k wo t) := by
  intro m
  induction m with
  | zero =>
    intro t wo hh hw
    cases t with
    | n i => rw [tupT]; exact .int
    | t x => rw [tupT]; exact .str
    | z => rw [tupT]; exact .none
    | _ => simp [ht] at hh
  | succ m IH =>
    intro t wo hh hw
    have mem : ∀ wo (ts : List T), htL ts ≤ m → WTL ts → ∀ d ∈ tupE keep k wo ts, EQ2 w H (4 * m + 4) d := fun wo ts h1 h2 d hd => by
      rw [tupE_map] at hd
      obtain ⟨x, hx, rfl⟩ := List.mem_map.mp hd
      split
      · exact IH x wo (Nat.le_trans (htL_mem x hx) h1) (WTL_mem h2 x hx)
      · exact eq_laid X m x (Nat.le_trans (htL_mem x hx) h1) (WTL_mem h2 x hx)
    cases t with
    | n i => rw [tupT]; exact .int
    | t x => rw [tupT]; exact .str
    | z => rw [tupT]; exact .none
    | l ts =>
      rw [ht] at hh; rw [WT] at hw; rw [tupT]
      exact (EQ2.list (mem _ ts (by omega) hw.1)).le (by omega)
    | u ts =>
      rw [ht] at hh; rw [WT] at hw; rw [tupT]
      cases keep
      · exact (EQ2.list (mem _ ts (by omega) hw.1)).le (by omega)
      · exact (EQ2.tup (mem _ ts (by omega) hw.1)).le (by omega)
    | o a b =>
      rw [ht] at hh; rw [WT] at hw; rw [tupT]
      refine (EQ2.tup fun x hx => ?_).le (show 4 * m + 4 + 1 ≤ _ by omega)
      unfold rowT at hx
      rcases List.mem_append.mp hx with h | h
      · split at h
        · obtain rfl := List.mem_singleton.mp h; exact IH a wo (by omega) hw.1
        · cases h
      · split at h
        · obtain rfl := List.mem_singleton.mp h; exact IH b wo (by omega) hw.2
        · cases h
    | d ks ts =>
      rw [ht] at hh; rw [WT] at hw; rw [tupT]
      refine (EQ2.dict (fun i x hx => ks_self0 hw.2.2 (by rw [tupE_map, List.length_map]; exact hw.2.1) i x hx) fun x hx => mem _ ts (by omega) hw.1 _ (zip_mem hx)).le (by omega)
end
end Mine
end

section -- R1
open PySem PySem.Calls PySem.W PyProof.Rows PySem.SeqAt PySem.MeetsSeq
set_option maxRecDepth 100000
set_option linter.unusedVariables false
namespace Mine
section
variable (prog : Program) (w : World) (hk : PD → Int) (H : Heap)
/-- an expression that may change one's own objects -/
def EVX (n : Nat) (F : Fm) (wc : List Str) (look : Look) (own : Own) (e : Expr) (K : PD → Own → Prop) : Prop :=
  ∀ (A : Around) (B : Bs) (s : Shared) (L : Led) (env : Env), Ok n A → St hk H B F wc env look own L s → wpAny (model prog w) A (eval e env) (fun v s' => ∃ d own' L', K d own' ∧ St hk H B F wc env look own' L' s' ∧ Is hk L' v d ∧ ∀ a o, L a o → L' a o) (fun _ _ => False) s
/-- a test that looks at one's own objects -/
def ETO (n : Nat) (F : Fm) (wc : List Str) (look : Look) (own : Own) (e : Expr) (b : Bool) : Prop :=
  ∀ (A : Around) (B : Bs) (s : Shared) (L : Led) (env : Env), Ok n A → St hk H B F wc env look own L s → wpAny (model prog w) A (isTrue e env (eval e env)) (fun t s' => t = b ∧ Pure H s s') (fun _ _ => False) s
/-- a call that changes an own row -/
def FNX (n : Nat) (f : PD) (D : Addr) (xs : List PD) (ps : List PD) (K : PD → List PD → Prop) : Prop :=
  ∀ (A : Around) (s : Shared) (L : Led) (fv : Value) (vs : List Value), Ok n A → Inv H s.heap → Holds H L s.heap → H.get? D = none → OwnAt hk L s.heap D (.lst xs) → (∀ o, ¬ L D o) → Is hk L fv f → IsAll hk L vs ps →
    wpAny (model prog w) A (call fv vs []) (fun v s' => ∃ d ys L', K d ys ∧ Ow hk H ⟨s, L, fun a => a = D⟩ [(D, .lst ys)] L' s' ∧ Is hk L' v d) (fun _ _ => False) s
end
section
variable {prog : Program} {w : World} {H : Heap} {hk : PD → Int} {n m : Nat} {F : Fm} {wc : List Str} {look : Look} {own : Own} {A : Around} {B : Bs} {s s' s₁ : Shared} {L L' : Led} {env : Env} {E : Value → Shared → Prop} {K : Frag} {G : Goal}
theorem FNX.le {f : PD} {D : Addr} {xs ps : List PD} {K : PD → List PD → Prop} (h : FNX prog w hk H n f D xs ps K) (hn : n ≤ m) : FNX prog w hk H m f D xs ps K := fun A s L fv vs ok => h A s L fv vs (ok.le hn)
theorem EVX.pure {e : Expr} {d : PD} {K : PD → Own → Prop} (h : EV prog w hk H n F look e d) (k : K d own) : EVX prog w hk H n F wc look own e K := fun A B s L env ok st =>
  h.use ok st.pre fun v s' q i _ => ⟨d, own, _, k, st.step q, i, fun _ _ => .inl⟩
theorem EX.assignX {x : Str} {p' pos : Pos} {e : Expr} {K : PD → Own → Prop} {rest : List Stmt} (h : EVX prog w hk H n F wc look own e K) (k : ∀ d own', K d own' → EX prog w hk H n F wc (upd look x d) own' rest G)
    (hx : F.sc.names.lookup x = some .local ∨ (F.sc.names.lookup x = some .cell ∧ x ∈ wc) := by first | exact .inl rfl | exact .inr ⟨rfl, by simp⟩)
    (hs : ∀ env, swapsWith e (some (.Name x p')) pos.line env = pure false := by intro _; rfl) : EX prog w hk H n F wc look own (.Assign [.Name x p'] e pos :: rest) G := fun A B s L env ok st => by
  refine wpAny_execs_cons (wpAny_Assign_Name (wpAny_mono (h A B s L env ok st) (fun v s₁ e => ?_) fun _ _ f => f.elim) (hs env))
  obtain ⟨d, own', L', hK, st', i, _⟩ := e
  exact st'.store i hx fun s'' st'' => k d own' hK A B s'' L' env ok st''
theorem ETO.view {e : Expr} {b : Bool} {x : Str} {D : Addr} {y : OwnO} (hx : look x = some (.val (.ref D))) (h : ET prog w hk H n F (upd look x y.frozen) e b) : ETO prog w hk H n F wc look ((D, y) :: own) e b := fun A B s L env ok st => by
  obtain ⟨L', st', i, sub, _⟩ := st.freeze
  refine h A s L' env ok { st'.pre with view := fun z d e => ?_ }
  unfold upd at e
  split at e
  · obtain rfl := Option.some.inj e
    rename_i hz
    obtain ⟨v, r, iv⟩ := st.pre.view x _ hx
    cases iv
    exact ⟨_, hz ▸ r, i⟩
  · exact st'.pre.view z d e
theorem ETO.use {e : Expr} {b : Bool} (h : ETO prog w hk H n F wc look own e b) {Q : Bool → Shared → Prop} {E : Value → Shared → Prop} (ok : Ok n A) (st : St hk H B F wc env look own L s)
    (k : ∀ s', Pure H s s' → St hk H B F wc env look own (L.or (Fresh H s.heap s'.heap)) s' → Q b s') : wpAny (model prog w) A (isTrue e env (eval e env)) Q E s :=
  wpAny_mono (h A B s L env ok st) (fun t s' e => by obtain ⟨rfl, q⟩ := e; exact k s' q (st.step q)) fun _ _ f => f.elim
theorem EVX.ifT {t a b : Expr} {pos : Pos} {K : PD → Own → Prop} (ht : ETO prog w hk H n F wc look own t true) (h : EVX prog w hk H n F wc look own a K) : EVX prog w hk H n F wc look own (.IfExp t a b pos) K := fun A B s L env ok st =>
  wpAny_IfExp (ht.use ok st fun s' q st' => by
    show wpAny _ _ (eval a env) _ _ s'
    refine wpAny_mono (h A B s' _ env ok st') (fun v s'' e => ?_) fun _ _ f => f
    obtain ⟨d, own', L', hK, st'', i, sub⟩ := e
    exact ⟨d, own', L', hK, st'', i, fun a o e => sub a o (.inl e)⟩)
theorem EVX.ifF {t a b : Expr} {pos : Pos} {K : PD → Own → Prop} (ht : ETO prog w hk H n F wc look own t false) (h : EVX prog w hk H n F wc look own b K) : EVX prog w hk H n F wc look own (.IfExp t a b pos) K := fun A B s L env ok st =>
  wpAny_IfExp (ht.use ok st fun s' q st' => by
    show wpAny _ _ (eval b env) _ _ s'
    refine wpAny_mono (h A B s' _ env ok st') (fun v s'' e => ?_) fun _ _ f => f
    obtain ⟨d, own', L', hK, st'', i, sub⟩ := e
    exact ⟨d, own', L', hK, st'', i, fun a o e => sub a o (.inl e)⟩)
/-- the first of an own row is taken out -/
theorem EVX.pop0 {x : Str} {px apos cpos : Pos} {e : Expr} {d : PD} {D : Addr} {xs : List PD} {pl : Env → Sem Bool} {K : PD → Own → Prop} (hx : look x = some (.val (.ref D))) (h : EV prog w hk H n F look e (.int 0)) (hz : (d :: xs).length ≤ sizeLine) (k : K d ((D, .lst xs) :: own))
    (hp : ∀ pos env, (backTo pos (starEach [e] env)).any (·.1) = false := by intro _ _; rfl)
    (he' : ∀ env, starEach [e] env = (false, eval e env) :: starEach [] env := by intro _; rfl)
    (he : ∀ env, eval (.Call (.Attribute (.Name x px) "pop" apos) [e] [] cpos) env = (do
      let ov ← eval (.Name x px) env
      standAt apos.atName
      let (f, first) ← holding [ov] (getMethod ov "pop" (pl env))
      callWith cpos f first (backTo cpos (starEach [e] env)) (backToKw cpos (keywordEach [] env))) := by intro _; rfl) (hdb : (x == ("__debug__" : Str)) = false := by rfl) :
    EVX prog w hk H n F wc look ((D, .lst (d :: xs)) :: own) (.Call (.Attribute (.Name x px) "pop" apos) [e] [] cpos) K := fun A B s L env ok st => by
  refine call_method (pl := pl env) ((EV.name (prog := prog) (n := n) hx hdb).use ok st.pre fun o s₁ q₁ i₁ p₁ => ?_) (he env)
  cases i₁
  have st₁ := st.step q₁
  obtain ⟨⟨vs, nn, hD, iA⟩, _⟩ := st₁.ownAt _ (.head _)
  refine getMethod_builtin ⟨_, hD, rfl⟩ PySem.F.plainAttrs_list PySem.F.slot_list_pop PySem.F.type_list_pop (fun a e => by cases e; exact ⟨_, hD, rfl⟩) ?_
  refine callWith_any (evalArgs_any (hp cpos env) rfl ((ES.cons h .nil he').use ok st₁.pre fun us s₃ q₃ i₃ p₃ => ?_))
  obtain ⟨u, rfl, iu⟩ := i₃.one1
  have st₃ := st₁.step q₃
  refine wpAny_mono (EK.nil.2 A s₃ _ env cpos ok st₃.pre) (fun kvs s₄ h₄ => ?_) fun _ _ f => f.elim
  obtain ⟨q₄, i₄⟩ := h₄
  obtain rfl := i₄.none0
  have st₄ := st₃.step q₄
  refine wpAny_mono ((KP.blt (hk := hk)) A s₄ _ _ st₄.pre.inv st₄.pre.led (.val _)) (fun _ s₅ e => ?_) fun _ _ f => f.elim
  subst e
  obtain ⟨⟨vs', nn', hD', iA'⟩, _⟩ := st₄.ownAt _ (.head _)
  cases iu with
  | int _ u =>
  show wpAny _ _ (call (.builtin "list.pop") [.ref D, .int 0 u]) _ _ _
  obtain ⟨l⟩ := vs'
  cases l with
  | nil => cases iA'
  | cons y l =>
  cases iA' with
  | cons iy il =>
  have hl : (y :: l).toArray.size ≤ sizeLine := by
    have := il.length
    simp only [List.size_toArray, List.length_cons] at hz ⊢
    omega
  refine call_meets PySem.F.slot_list_pop ⟨_, hD', rfl⟩ PySem.F.entry_list_pop (PySem.F.args_list_pop_2 _ _) (PySem.MeetsSeq.list_pop_at D (y :: l).toArray nn' 0 u 0 y (by rfl) (by simp [seqIndex?]) (by simp) hl) ⟨hD', ?_⟩
  have hs := Heap.SameBut.update (h := s₅.heap) (a := D) (f := Obj.mapSeq fun xs => xs.eraseIdxIfInBounds 0)
  have hn := PySem.IsL.update hD' (fun xs => xs.eraseIdxIfInBounds 0)
  have ee : (y :: l).toArray.eraseIdxIfInBounds 0 = l.toArray := kl_erase [] l y
  rw [ee] at hn
  refine ⟨d, _, _, k, st₄.own1 (tk := s₅.toks) hs ⟨l.toArray, _, hn, by simpa using il⟩, iy, fun a o e => .inl (.inl (.inl e))⟩
end
end Mine
end

section -- R2
open PySem PySem.Calls PySem.W PyProof.Rows PySem.SeqAt PySem.MeetsSeq
set_option maxRecDepth 100000
set_option linter.unusedVariables false
namespace Mine
section
variable {prog : Program} {w : World} {H : Heap} {hk : PD → Int} {n m : Nat} {F : Fm} {wc : List Str} {look : Look} {own : Own} {A : Around} {B : Bs} {s s' s₁ : Shared} {L L' : Led} {env : Env} {E : Value → Shared → Prop} {K : Frag} {G : Goal}
theorem OwnAt.solid {h : Heap} {D : Addr} {x : OwnO} (a : OwnAt hk L h D x) : ∃ o, h.get? D = some o ∧ o.cls ≠ .none := by
  cases x with
  | lst => obtain ⟨vs, n, e, _⟩ := a; exact ⟨_, e, by simp⟩
  | dct => obtain ⟨vs, n, e, _⟩ := a; exact ⟨_, e, by simp⟩
  | ins C dx => exact ⟨_, a, by simp [instObj]⟩
/-- what a call that knows one own object alone has left -/
theorem St.after1 {D : Addr} {x y : OwnO} (st : St hk H B F wc env look ((D, x) :: own) L s) (ow : Ow hk H ⟨s, L, fun a => a = D⟩ [(D, y)] L' s') : St hk H B F wc env look ((D, y) :: own) L' s' := by
  have hn := List.nodup_cons.mp st.nodup
  have neD : ∀ p ∈ own, p.1 ≠ D := fun p hp e => hn.1 (List.mem_map.mpr ⟨p, hp, e⟩)
  refine st.after ⟨ow.inv0, fun a e => ?_, ⟨fun a o e c n => ow.pure.keep a o e c fun q => n ⟨_, .head _, q⟩, ow.pure.there, ow.pure.inv, ow.pure.gens, ow.pure.bare, ow.pure.os⟩, fun a o e => (ow.base a o e).imp id fun e => e.imp id fun e => ⟨_, .head _, e⟩, ow.sub, ow.led, fun p hp => ?_, by simpa using st.nodup⟩ fun p hp => by simpa using (List.mem_cons.mp hp).imp (fun e => by rw [e]) fun e => ⟨_, e⟩
  · obtain ⟨p, hp, rfl⟩ := e
    exact st.mine (st.ownAt p hp).2.1
  · rcases List.mem_cons.mp hp with rfl | hp
    · obtain ⟨a, b, c⟩ := ow.ownAt _ (.head _)
      exact ⟨a, .inr ⟨_, .head _, rfl⟩, c⟩
    · obtain ⟨a, b, c, _⟩ := st.ownAt p (.tail _ hp)
      obtain ⟨o, ho, hc⟩ := a.solid
      have k := ow.pure.keep _ _ ho (.inl hc) (neD p hp)
      refine ⟨a.mono ow.sub (k.trans ho.symm), .inr ⟨p, .tail _ hp, rfl⟩, fun o' e => ?_⟩
      rcases ow.base _ _ e with e | e | e
      · exact c _ e
      · have e0 : s.heap.get? p.1 = none := e
        rw [ho] at e0; cases e0
      · exact neD p hp e
/-- a def of K's whose call changes an own row -/
theorem FNX.defK {a D : Addr} {xs ps : List PD} {names : List Str} {ds : List PD} {K' : PD → List PD → Prop} (wc : List Str) (X : Env0 K H) (hok : defOk K a = true) (hb : BINDS prog w hk H (fdOf K a) ps [] names ds)
    (hn : names.Nodup) (hkind : (names.all fun x => (fdOf K a).scope.names.lookup x == some .local || (fdOf K a).scope.names.lookup x == some .cell) = true)
    (h : EX prog w hk H n ⟨(fdOf K a).scope, some (codeOf (fdOf K a)), none⟩ wc (fun x => (names.zip ds).lookup x) [(D, .lst xs)] (bodyOf (fdOf K a)) ⟨fun _ _ => False, fun _ _ => False, fun d' o => ∃ ys, o = [(D, .lst ys)] ∧ K' d' ys⟩) : FNX prog w hk H (n + 1) (.val (.ref a)) D xs ps K' := fun A s L fv vs ok inv led hD hO hL iv i1 => by
  cases iv
  have DA := DefAt.ofK X.at_ hok
  obtain ⟨o, ho, hc, hdd⟩ := DA.obj
  obtain ⟨oc, vc, tc, f1, f2, f3, f4, f5⟩ := DA.code
  refine wpAny_call (codeAny_call_function ok.room (inv.get ho hc) hdd DA.co DA.gen DA.body ⟨_, oc, vc, tc, f1, inv.get f2 f3, f4, f5⟩ ?_)
  refine wpAny_mono (hb A.in1 s L vs [] inv led i1 .nil rfl) (fun b s₁ hb₁ => ?_) fun _ _ f => f.elim
  obtain ⟨q, hbn, hbi⟩ := hb₁
  rw [DA.clo]
  have hkind' : ∀ x ∈ names, (fdOf K a).scope.names.lookup x = some .local ∨ (fdOf K a).scope.names.lookup x = some .cell := fun x hx => by have := List.all_eq_true.mp hkind x hx; simpa using this
  refine wpAny_newFunctionEnv_cells DA.kind (fun x hx => ?_) fun env he s' ic => ⟨?_, codeAny_func ?_⟩
  · have hxn : x.1 ∈ names := hbn ▸ List.mem_map.mpr ⟨x, hx, rfl⟩
    refine (hkind' _ hxn).imp id fun e => ⟨e, cellsFrom_has _ _ _ _ (.inl (mem_of_lookup e))⟩
  · obtain ⟨h', tk, rfl, hkp⟩ := ic.done
    exact q.inv.lim.keeps hkp
  · have led₁ : Holds H (L.or (Fresh H s.heap s₁.heap)) s₁.heap := (led.keep q.keep).or .fresh
    have st := FN.begin (q := none) (wc := wc) DA.kind DA.free DA.glob DA.blt f1 q.inv led₁ hbn hbi hn hkind' (by subst he; exact ⟨⟨rfl, rfl, rfl, rfl, rfl⟩, rfl⟩) ic (fun z e => nomatch e)
    obtain ⟨oD, gD, cD⟩ := hO.solid
    have gD₁ : s₁.heap.get? D = some oD := q.keep.keep _ _ gD (.inl cD)
    have gD' : s'.heap.get? D = some oD := by
      obtain ⟨h', tk, rfl, hkp⟩ := ic.done
      exact hkp _ _ gD₁
    have nl : D < s₁.heap.objs.size := Heap.lt_size gD₁
    have l2 : env.locals = s₁.heap.objs.size := by subst he; rfl
    have st2 : St hk H ⟨s, L, fun a => a = D⟩ ⟨(fdOf K a).scope, some (codeOf (fdOf K a)), none⟩ wc env (fun x => (names.zip ds).lookup x) [(D, .lst xs)] (L.or (Fresh H s.heap s₁.heap)) s' :=
      { pre := st.pre, inv0 := inv, no := fun a e => by have e : a = D := e; rw [e]; exact hD
        pure := (PureX.of q).join st.pure fun _ e => e.elim
        base := fun a o e => e.imp id fun e => .inl e.1
        sub := fun a o e => .inl e
        ownAt := fun p hp => by
          obtain rfl := List.mem_singleton.mp hp
          refine ⟨hO.mono (fun _ _ => .inl) (gD'.trans gD.symm), .inr rfl, fun o e => ?_, fun z => ?_, fun x c hc' z => ?_⟩
          · rcases e with e | e
            · exact hL o e
            · have e0 := e.1; rw [gD] at e0; cases e0
          · have z : D = env.locals := z
            rw [z, l2] at nl; exact Nat.lt_irrefl _ nl
          · have l3 := ic.above x c (mem_of_lookup hc')
            rw [l2, z] at l3
            exact Nat.lt_irrefl _ (Nat.lt_trans nl l3)
        nodup := by simp
        loc := let ⟨a, b⟩ := st.loc; ⟨.inl (a.elim (fun e => q.keep.none e) fun e => e.elim), b⟩
        cel := fun x c h0 h1 h2 => let ⟨a, b⟩ := st.cel x c h0 h1 h2; ⟨.inl (a.elim (fun e => q.keep.none e) fun e => e.elim), b⟩
        cells := st.cells }
    refine wpAny_mono (h _ _ _ _ env (ok.deeper env) st2) (fun f s₂ e => ?_) fun _ _ f => f.elim
    cases f with
    | next => obtain ⟨_, _, _, e, _⟩ := e; exact e.elim
    | cont => obtain ⟨_, _, _, e, _⟩ := e; exact e.elim
    | brk => exact e.elim
    | ret v =>
      obtain ⟨l, o, L', d, ⟨ys, rfl, hK⟩, st3, i⟩ := e
      exact ⟨d, ys, L', hK, st3.ow, i⟩
/-- a call on an own row -/
theorem EVX.call {fe : Expr} {es : List Expr} {pos : Pos} {f : PD} {D : Addr} {xs ps : List PD} {K : PD → List PD → Prop} {K' : PD → Own → Prop} (hf : EV prog w hk H n F look fe f) (ha : ES prog w hk H n F look es ps) (kp : KP prog w hk H f)
    (fn : FNX prog w hk H n f D xs ps K) (hK : ∀ d ys, K d ys → K' d ((D, .lst ys) :: own))
    (hp : ∀ pos env, (backTo pos (starEach es env)).any (·.1) = false := by intro _ _; rfl)
    (harm : ∀ env, eval (.Call fe es [] pos) env = (do callWith pos (← eval fe env) [] (backTo pos (starEach es env)) (backToKw pos (keywordEach [] env))) := by intro _; rfl) :
    EVX prog w hk H n F wc look ((D, .lst xs) :: own) (.Call fe es [] pos) K' := fun A B s L env ok st => by
  rw [harm env]
  refine wpAny_bind (hf.use ok st.pre fun fv s₁ q₁ if_ p₁ => ?_)
  have st₁ := st.step q₁
  refine callWith_any (evalArgs_any (hp pos env) rfl (ha.use ok st₁.pre fun vs s₂ q₂ is_ p₂ => ?_))
  have st₂ := st₁.step q₂
  refine wpAny_mono (EK.nil.2 A s₂ _ env pos ok st₂.pre) (fun kvs s₃ h₃ => ?_) fun _ _ f => f.elim
  obtain ⟨q₃, i₃⟩ := h₃
  obtain rfl := i₃.none0
  have st₃ := st₂.step q₃
  have if3 := (if_.mono (M := _) fun a o e => (Or.inl (Or.inl e) : ((((L.or (Fresh H s.heap s₁.heap)).or (Fresh H s₁.heap s₂.heap)).or (Fresh H s₂.heap s₃.heap)) a o)))
  have is3 := (is_.mono (M := _) fun a o e => (Or.inl e : ((((L.or (Fresh H s.heap s₁.heap)).or (Fresh H s₁.heap s₂.heap)).or (Fresh H s₂.heap s₃.heap)) a o)))
  refine wpAny_mono (kp A s₃ _ fv st₃.pre.inv st₃.pre.led if3) (fun _ s₄ e => ?_) fun _ _ f => f.elim
  subst e
  obtain ⟨a, b, c, _⟩ := st₃.ownAt _ (.head _)
  refine wpAny_mono (fn A s₄ _ fv vs ok st₃.pre.inv st₃.pre.led (st₃.mine b) a c if3 is3) (fun v s₅ e => ?_) fun _ _ f => f
  obtain ⟨d, ys, L', hk, ow, i⟩ := e
  exact ⟨d, _, L', hK d ys hk, st₃.after1 ow, i, fun a o e => ow.sub a o (.inl (.inl (.inl e)))⟩
theorem EVX.weak {e : Expr} {K K' : PD → Own → Prop} (h : EVX prog w hk H n F wc look own e K) (k : ∀ d o, K d o → K' d o) : EVX prog w hk H n F wc look own e K' := fun A B s L env ok st =>
  wpAny_mono (h A B s L env ok st) (fun v s' e => by obtain ⟨d, o, L', hK, r⟩ := e; exact ⟨d, o, L', k d o hK, r⟩) fun _ _ f => f
theorem EVX.perm {e : Expr} {own' : Own} {K : PD → Own → Prop} (hp : own.Perm own') (h : EVX prog w hk H n F wc look own' e K) : EVX prog w hk H n F wc look own e K := fun A B s L env ok st => h A B s L env ok (st.perm hp)
theorem EVX.permK {e : Expr} {K : PD → Own → Prop} (h : EVX prog w hk H n F wc look own e (fun d o => ∃ o', o.Perm o' ∧ K d o')) : EVX prog w hk H n F wc look own e K := fun A B s L env ok st =>
  wpAny_mono (h A B s L env ok st) (fun v s' e => by obtain ⟨d, o, L', ⟨o', hp, hK⟩, st', r⟩ := e; exact ⟨d, o', L', hK, st'.perm hp, r⟩) fun _ _ f => f
/-- one turn that changes the own objects -/
theorem TURNL.change {o : Own} {elt : Expr} {K : Option PD → Own → Prop} (h : ∀ D x, EVX prog w hk H n F [] look ((D, x) :: o) elt (fun d o' => ∃ o'', o' = (D, x) :: o'' ∧ K (some d) o'')) : TURNL prog w hk H n F look o [] elt K := fun A B s L env D x ok st => by
  refine wpAny_mono (ETS.nil (prog := prog) (w := w) (n := n) A s L env ok st.pre) (fun t s₁ e => ?_) fun _ _ f => f
  obtain ⟨rfl, q⟩ := e
  rw [if_pos rfl]
  refine wpAny_mono (h D x A B s₁ _ env ok (st.step q)) (fun v s₂ e => ?_) fun _ _ f => f
  obtain ⟨d, _, L', ⟨o', rfl, hK⟩, st', i, _⟩ := e
  exact ⟨o', L', d, hK, st', i⟩
end
end Mine
end

section -- R3
open PySem PySem.Calls PySem.W PyProof.Rows PySem.SeqAt PySem.MeetsSeq
set_option maxRecDepth 100000
set_option linter.unusedVariables false
namespace Mine
section
variable {prog : Program} {w : World} {H : Heap} {hk : PD → Int} {n m : Nat} {F : Fm} {wc : List Str} {look : Look} {own : Own} {A : Around} {B : Bs} {s s' s₁ : Shared} {L L' L₂ Lw : Led} {env : Env} {E : Value → Shared → Prop} {K : Frag} {G : Goal}
def rangeI (m : Nat) : List Item := (List.range m).map fun (i : Nat) => Item.one (.int (i : Int))
theorem IT.range {fe e1 : Expr} {pos px : Pos} {x : Str} {m : Nat} (hf : EV prog w hk H n F look fe (.val (.type "range"))) (h1 : EV prog w hk H n F look e1 (.int m)) (hm : (m : Int) < 2 ^ 62)
    (hp : ∀ pos env, (backTo pos (starEach [e1] env)).any (·.1) = false := by intro _ _; rfl)
    (hc1 : ∀ env, starEach (e1 :: []) env = (false, eval e1 env) :: starEach [] env := by intro _; rfl)
    (harm : ∀ env, eval (.Call fe [e1] [] pos) env = (do callWith pos (← eval fe env) [] (backTo pos (starEach [e1] env)) (backToKw pos (keywordEach [] env))) := by intro _; rfl) :
    IT prog w hk H n F look (.Call fe [e1] [] pos) (.Name x px) (rangeI m) := fun A s L env ok p => by
  refine call_raw hf (.cons h1 .nil hc1) KP.type ok p (fun v vs s₁ q iv ivs p₁ => ?_) hp harm
  cases iv
  obtain ⟨u1, rfl, j1⟩ := ivs.one1
  cases j1 with
  | int _ t =>
  refine call_range_1 ?_
  have q₁ : Pure H s₁ { s₁ with heap := s₁.heap.push { cls := .type "range", data := .fields #[.int 0 s₁.toks, .int m t, .int 1 (s₁.toks + 1)] }, toks := s₁.toks + 1 + 1 } := .all p₁.inv fun b o e => Heap.get?_push_of_some _ e
  refine wpAny_pyIter_range (IsRange.new _ _ _ _ _ _ _) (small_one (by decide) (by decide) (by omega) hm) ?_
  rw [rangeSize_one]
  have ez : (if (0 : Int) < (m : Int) then (m : Int) - 0 else 0) = (m : Int) := by split <;> omega
  rw [ez]
  have q₂ := q₁.trans (Pure.push (s := { s₁ with heap := s₁.heap.push { cls := .type "range", data := .fields #[.int 0 s₁.toks, .int m t, .int 1 (s₁.toks + 1)] }, toks := s₁.toks + 1 + 1 }) q₁.inv { cls := .type "range_iterator", data := .fields #[rawInt 0, rawInt m, rawInt 1] })
  have nI : s₁.heap.get? (s₁.heap.push { cls := .type "range", data := .fields #[.int 0 s₁.toks, .int m t, .int 1 (s₁.toks + 1)] }).objs.size = none := Heap.get?_none_of_le (by rw [Heap.size_push]; exact Nat.le_succ _)
  refine ⟨⟨_, [_], [_], m, fun i v _ => ∃ t, v = .int (0 + (i : Int) * 1) t, fun i v h => (∃ t, v = .int (0 + (i : Int) * 1) t) ∧ IsRangeIter h _ (0 + ((i + 1 : Nat) : Int) * 1) ((m : Int) - ((i + 1 : Nat) : Int)) 1, fun i h => IsRangeIter h _ (0 + (i : Int) * 1) ((m : Int) - (i : Int)) 1⟩, L.or (Fresh H s.heap s₁.heap), rfl,
    ⟨fun A hh => KTurns.ofWalks (Walks.range hh _ 0 1 m) fun i v s Q E st q => wpAny_pure q, by simp [rangeI], fun i v h L' x sub hv hx => ?_, fun A i s Q E hh st hQ => (Walks.range hh _ 0 1 m).self i s Q E st hQ, fun i h st b hb => ?_, fun b hb => .inl hb, fun b hb o e => ?_, fun i h st b hb o x e => ?_, fun i v h st b hb o x e => ?_⟩, q.trans q₂, fun _ _ => .inl, p₁.led.keep q₂.keep, fun a o e => e.imp id And.left, ?_, fun b hb => ?_⟩
  · obtain ⟨t, rfl⟩ := hv
    unfold rangeI at hx
    rw [List.getElem?_map] at hx
    obtain ⟨j, hj, rfl⟩ := Option.map_eq_some_iff.mp hx
    have ej : j = i := by
      rw [List.getElem?_eq_some_iff] at hj
      obtain ⟨_, hj⟩ := hj
      simpa using hj.symm
    subst ej
    have : (0 + (j : Int) * 1) = (j : Int) := by omega
    rw [this]
    exact .int _ _
  · exact ⟨_, List.mem_singleton.mp hb ▸ st⟩
  · rw [List.mem_singleton.mp hb] at e
    have e1 := (p₁.led _ _ e).1
    have e2 := nI.symm.trans e1
    cases e2
  · rw [List.mem_singleton.mp hb] at e
    exact noRec_get st (fun x ⟨vs, t, e1, e2⟩ => by cases e1; cases e2) e
  · rw [List.mem_singleton.mp hb] at e
    exact noRec_get st.2 (fun x ⟨vs, t, e1, e2⟩ => by cases e1; cases e2) e
  · have := Heap.get?_push_size (s₁.heap.push { cls := .type "range", data := .fields #[.int 0 s₁.toks, .int m t, .int 1 (s₁.toks + 1)] }) (o := { cls := .type "range_iterator", data := .fields #[rawInt 0, rawInt m, rawInt 1] }) rfl
    refine this.trans ?_
    simp
  · rw [List.mem_singleton.mp hb]; exact q.keep.none nI
def enumI (ds : List PD) : List Item := ds.mapIdx fun i d => .tup [.int i, d]
theorem IT.enum {fe e1 : Expr} {pos tpos : Pos} {elts : List Expr} {kk : Nat} {ds : List PD} (hf : EV prog w hk H n F look fe (.val (.type "enumerate"))) (h1 : EV prog w hk H n F look e1 (.list ds))
    (hp : ∀ pos env, (backTo pos (starEach [e1] env)).any (·.1) = false := by intro _ _; rfl)
    (hc1 : ∀ env, starEach (e1 :: []) env = (false, eval e1 env) :: starEach [] env := by intro _; rfl)
    (harm : ∀ env, eval (.Call fe [e1] [] pos) env = (do callWith pos (← eval fe env) [] (backTo pos (starEach [e1] env)) (backToKw pos (keywordEach [] env))) := by intro _; rfl) :
    IT prog w hk H n F look (.Call fe [e1] [] pos) (.Tuple elts kk tpos) (enumI ds) := fun A s L env ok p => by
  refine call_raw hf (.cons h1 .nil hc1) KP.type ok p (fun v vs s₁ q iv ivs p₁ => ?_) hp harm
  cases iv
  obtain ⟨u1, rfl, j1⟩ := ivs.one1
  cases j1 with
  | @list l lo vs n1 _ a1 a2 a3 a4 =>
  have hl : s₁.heap.IsList l vs := ⟨lo, (p₁.led _ _ a1).1, a2, n1, a3⟩
  have hlt : l < s₁.heap.objs.size := Heap.lt_size (p₁.led _ _ a1).1
  refine call_enumerate_list hl fun h' hE hI hsz hk => ?_
  refine wpAny_pyIter_enum hE ?_
  have q₁ : Pure H s₁ { s₁ with heap := h' } := .all (t := s₁.toks) p₁.inv hk
  have nI : ∀ b ∈ [s₁.heap.objs.size + 1, s₁.heap.objs.size], s₁.heap.get? b = none := fun b hb => Heap.get?_none_of_le (by
    simp only [List.mem_cons, List.not_mem_nil, or_false] at hb
    rcases hb with rfl | rfl
    · exact Nat.le_succ _
    · exact Nat.le_refl _)
  have nr : ∀ {h : Heap} {i : Int} {old : Value}, IsEnum h (s₁.heap.objs.size + 1) s₁.heap.objs.size i old → ∀ o x, h.get? (s₁.heap.objs.size + 1) = some o → ¬ RecAt o x := fun hz o x e => noRec_get hz (fun x ⟨vs, t, e1, e2⟩ => by cases e1; cases e2) e
  refine ⟨⟨s₁.heap.objs.size + 1, [s₁.heap.objs.size + 1, s₁.heap.objs.size, l], [s₁.heap.objs.size + 1, s₁.heap.objs.size], vs.size, _, _, _⟩, L.or (Fresh H s.heap s₁.heap), rfl,
    ⟨fun A hh => KTurns.ofWalksU (WalksT.enumerate hh (s₁.heap.objs.size + 1) s₁.heap.objs.size l (Nat.succ_ne_self _) (ktu_ne 1 hlt) (Nat.ne_of_lt hlt) vs).toU, by simp [enumI, a4.arr], fun i v h L' x sub hv hx => ?_, fun A i s Q E hh st hQ => ?_, fun i h st b hb => ?_, fun b hb => ?_, fun b hb o e => ?_, fun i h st b hb o x e => ?_, fun i v h st b hb o x e => ?_⟩, q.trans q₁, fun _ _ => .inl, p₁.led.keep q₁.keep, fun a o e => e.imp id And.left, ⟨⟨.none, hE⟩, hI, hl.at fun o e => hk l o e⟩, fun b hb => q.keep.none (nI b hb)⟩
  · obtain ⟨T, vals, rfl, ⟨t, x1, e1, rfl⟩, hT⟩ := hv
    unfold enumI at hx
    rw [List.getElem?_mapIdx] at hx
    obtain ⟨d, hd, rfl⟩ := Option.map_eq_some_iff.mp hx
    obtain ⟨d', hd', i1⟩ := a4.get (by rw [Array.getElem?_toList]; exact e1)
    rw [hd] at hd'; cases hd'
    exact ⟨T, _, rfl, hT, .cons (.int _ _) (.cons (i1.mono sub) .nil)⟩
  · obtain ⟨⟨old, he⟩, _⟩ := st
    exact wpAny_pyIter_enum he hQ
  · obtain ⟨⟨old, he⟩, ⟨o1, ho1, _⟩, ⟨o2, ho2, _⟩⟩ := st
    simp only [List.mem_cons, List.not_mem_nil, or_false] at hb
    rcases hb with rfl | rfl | rfl
    · exact ⟨_, he⟩
    · exact ⟨_, ho1⟩
    · exact ⟨_, ho2⟩
  · simp only [List.mem_cons, List.not_mem_nil, or_false] at hb
    rcases hb with rfl | rfl | rfl
    · exact .inl (by simp)
    · exact .inl (by simp)
    · exact .inr ⟨lo, a1⟩
  · have e1 := (p₁.led _ _ e).1
    rw [nI b hb] at e1; cases e1
  · obtain ⟨⟨old, he⟩, h1, _⟩ := st
    simp only [List.mem_cons, List.not_mem_nil, or_false] at hb
    rcases hb with rfl | rfl
    · exact nr he o x e
    · exact noRec_liter h1 o x e
  · obtain ⟨T, vals, _, _, _, ⟨y, he⟩, h1, _⟩ := st
    simp only [List.mem_cons, List.not_mem_nil, or_false] at hb
    rcases hb with rfl | rfl
    · exact noRec_get he (fun x ⟨vs, t, e1, e2⟩ => by cases e1; cases e2) e
    · exact noRec_liter h1 o x e
end
end Mine
end

section -- R4
open PySem PySem.Calls PySem.W PyProof.Rows PySem.SeqAt PySem.MeetsSeq
set_option maxRecDepth 100000
set_option linter.unusedVariables false
namespace Mine
section
variable {prog : Program} {w : World} {H : Heap} {hk : PD → Int} {n m : Nat} {F : Fm} {wc : List Str} {look : Look} {own : Own} {A : Around} {B : Bs} {s s' s₁ : Shared} {L L' L₂ Lw : Led} {env : Env} {E : Value → Shared → Prop} {K : Frag} {G : Goal} {t : Expr} {items : List Item}
/-- a name takes a list comprehension whose turns change the own objects -/
theorem EX.assignOwnL {x : Str} {p' apos : Pos} {elt iter : Expr} {scope : Scope} {pos : Pos} {f : Item → Look → Look} {rest : List Stmt} (J : Nat → List PD → Own → Prop)
    (hit : IT prog w hk H n F look iter t items) (hsz : items.length ≤ sizeLine) (hsc : ScOk F scope)
    (hJo : ∀ i ys o, J i ys o → o.map (·.1) = own.map (·.1) ∧ ys.length ≤ i) (h0 : J 0 [] own)
    (tg : ∀ x ∈ items, TGI prog w hk H (F.comp scope) [] t x (f x)) (hf : ∀ x ∈ items, ∀ y d, compLook F scope look y = some d → f x (compLook F scope look) y = some d)
    (hb : ∀ i x ys o, items[i]? = some x → J i ys o → TURNL prog w hk H n (F.comp scope) (f x (compLook F scope look)) o [] elt fun r o' => J (i + 1) (ys ++ r.toList) o')
    (k : ∀ ys o, J items.length ys o → EX prog w hk H n F wc (upd look x (.list ys)) o rest G)
    (hx : F.sc.names.lookup x = some .local ∨ (F.sc.names.lookup x = some .cell ∧ x ∈ wc) := by first | exact .inl rfl | exact .inr ⟨rfl, by simp⟩)
    (hs : ∀ env x, foldedSetIterable iter env x = pure x := by intro _ _; rfl)
    (hsw : ∀ env : Env, env.scope = F.sc → swapsWith (.ListComp elt [⟨t, iter, [], 0⟩] scope pos) (some (.Name x p')) apos.line env = pure true := by intro env h; obtain ⟨sc, a1, a2, a3, a4, a5, a6, a7, a8⟩ := env; dsimp only at h; subst h; rfl)
    (hu : ∀ env use, evalThenUse (.ListComp elt [⟨t, iter, [], 0⟩] scope pos) env use = (do let _ ← cmpL elt t iter [] scope pos env (some use)) := by intro _ _; rfl) :
    EX prog w hk H n F wc look own (.Assign [.Name x p'] (.ListComp elt [⟨t, iter, [], 0⟩] scope pos) apos :: rest) G := fun A B s L env ok st => by
  refine wpAny_execs_cons ?_
  rw [exec_Assign_Name_used _ _ _ _ (hsw env st.pre.scope), hu]
  refine wpAny_bind (wpAny_standAt (wpAny_bind (wpAny_bind (comp_list (E := fun _ _ => False) (B := ⟨s, L, fun a => ∃ p ∈ own, a = p.1⟩) ok st.pre hit hsz hsc.cell hsc.kind hsc.names hsc.free (hs env) J hJo h0 tg hf hb (fun s₂ L₂ q sub ho hbb => ?_) (fun p hp => (st.ownAt p hp).2.2.2.2) (fun b e => e) (fun p hp => ⟨(st.ownAt p hp).1.there, (st.ownAt p hp).2.2.1⟩) fun ys o L' s' D C hJ hC ow i ⟨m, hn⟩ hlo hl => ?_))))
  · have st₂ := st.stepL q sub ho hbb
    refine ⟨st.pre.inv, fun a e => ?_, PureX.of q, fun a o e => (hbb a o e).imp id fun e => .inl e, sub, ho, fun p hp => ?_, st.nodup⟩
    · obtain ⟨p, hp, rfl⟩ := e; exact st.mine (st.ownAt p hp).2.1
    · obtain ⟨a, b, c, _⟩ := st₂.ownAt p hp
      exact ⟨a, .inr ⟨p, hp, rfl⟩, c⟩
  · have hom := (hJo _ _ _ hJ).1
    have st' : St hk H B F wc env look o L' s' := st.after ow fun p hp => hom ▸ List.mem_map.mpr ⟨p, hp, rfl⟩
    have ne : ∀ {a : Addr}, (∃ o, s.heap.get? a = some o) → a ≠ C := fun ⟨o, e⟩ q => by rw [q, hC] at e; cases e
    refine wpAny_assign_Name (st'.rebase.store i hx fun s'' st'' => ?_)
    have nX : ¬ (St.there o wc F env L' s').X C := fun e => by
      rcases e with e | ⟨p, hp, e⟩ | ⟨y, h1, h2, h3⟩
      · exact ne (by obtain ⟨_, _, m, c⟩ := st.loc; exact Ns.there c) e.symm
      · exact hlo p hp e.symm
      · exact ne (st.pre.cthere y C h3) rfl
    have hn'' : s''.heap.Ns C m := by
      obtain ⟨o, es, ep, e, hd, r⟩ := hn
      exact ⟨o, es, ep, st''.pure.keep _ _ e (.inr (.inl fun vs q => by rw [hd] at q; cases q)) nX, hd, r⟩
    refine ⟨m, hn'', fun h' hs' => wpAny_pure (wpAny_pure ?_)⟩
    have stf := st'.back st''
    have st5 := stf.but (tk := s''.toks) (h' := h') (wr := [C]) (fun b hb => by rw [List.mem_singleton.mp hb]; exact st.pure.none hC) (fun b hb => by rw [List.mem_singleton.mp hb]; exact hl)
      (fun p hp h => hlo p hp (List.mem_singleton.mp h)) (fun h => ne (by obtain ⟨_, _, m, c⟩ := st.loc; exact Ns.there c) (List.mem_singleton.mp h))
      (fun y c e h => ne (st.pre.cthere y c e) (List.mem_singleton.mp h)) (fun b hb => by rw [List.mem_singleton.mp hb]; exact RecAt.ns hn'') (fun b o hb e => (hs'.2 b fun q => hb (by simp [q])).trans e)
    exact k ys o hJ A B _ L' env ok st5
/-- binary operations on ints, from a state that has told a token -/
def BINZ (prog : Program) (w : World) (hk : PD → Int) (H : Heap) (op : Operator) (a b r : PD) : Prop :=
  ∀ (A : Around) (s : Shared) (L : Led) (u v : Value), A.handled = none → s.toks ≠ 0 → Inv H s.heap → Holds H L s.heap → Is hk L u a → Is hk L v b → wpAny (model prog w) A (binaryOp op u v) (Post hk H L s r) (fun _ _ => False) s
theorem EV.binz {l : Expr} {op : Operator} {pos cp : Pos} {a c : PD} {i : Int} {k : Nat} (hl : EV prog w hk H n F look l a) (h : BINZ prog w hk H op a (.int i) c) : EV prog w hk H n F look (.BinOp l op (.Constant (.int i) k cp) pos) c := fun A s L env ok p =>
  wpAny_BinOp (hl.use ok p fun u s₁ q₁ i₁ p₁ => wpAny_Constant_int (by
    have q₂ : Pure H s₁ { s₁ with toks := s₁.toks + 1 } := .toks p₁.inv _
    exact wpAny_mono (h A _ _ u _ ok.handled (Nat.succ_ne_zero _) (p₁.pure q₂).inv (p₁.pure q₂).led (i₁.mono fun _ _ => .inl) (.int _ _)) (fun _ _ e => Post.step q₁ (Post.step q₂ e)) fun _ _ f => f.elim))
theorem BIN.mod {x y : Int} (h : y ≠ 0) : BIN prog w hk H .Mod (.int x) (.int y) (.int (x.fmod y)) := fun A s L u v _ inv _ i j => by
  cases i; cases j; exact mod_int' h (Pure.post (.toks inv _) (.int _ _))
theorem BIN.fdiv7 {x : Int} : BIN prog w hk H .FloorDiv (.int x) (.int 7) (.int (x.fdiv 7)) := fun A s L u v _ inv _ i j => by
  cases i; cases j; exact floordiv_int (by decide) (Pure.post (.toks inv _) (.int _ _)) (.inl (PyProof.noPylong_of_log2 (by decide +kernel)))
theorem BINZ.mod {x y : Int} (h : y ≠ 0) : BINZ prog w hk H .Mod (.int x) (.int y) (.intz (x.fmod y)) := fun A s L u v _ ht inv _ i j => by
  cases i; cases j; exact mod_int' h (Pure.post (.toks inv _) (.intz _ _ ht))
end
end Mine
end

section -- N2
open PySem PySem.Calls PySem.W PyProof.Rows PySem.SeqAt PySem.MeetsSeq
set_option maxRecDepth 100000
set_option linter.unusedVariables false
namespace Mine
section
variable {prog : Program} {w : World} {H : Heap} {hk : PD → Int} {n m : Nat} {F : Fm} {wc : List Str} {look : Look} {own own' : Own} {A : Around} {B : Bs} {s s' s₁ : Shared} {L L' L₂ Lw : Led} {env : Env} {E : Value → Shared → Prop} {K : Frag} {G : Goal} {t : Expr} {items : List Item} {W : Wk} {i : Nat}
theorem LS.backG {look' : Look} {own' : Own} {L' : Led} (ok : WkOk prog w hk t W items Lw) (ls : LS hk H W Lw B F wc env look own L i s) (st' : St hk H (St.there own wc F env L s) F wc env look' own' L' s') :
    LS hk H W Lw B F wc env look' own' L' i s' := by
  have K := ok.turns {} rfl
  have nX : ∀ b ∈ W.fp, ¬ (St.there own wc F env L s).X b := fun b hb e => by
    rcases e with e | ⟨p, hp, e⟩ | ⟨x, h1, h2, h3⟩
    · exact ls.al (e ▸ hb)
    · exact ls.ao p hp (e ▸ hb)
    · exact ls.aw x b h1 h2 h3 hb
  refine ⟨ls.st.back st', K.frame _ _ _ ls.at_ fun b hb o e => st'.pure.keep b o e ?_ (nX b hb), fun b hb o e => ?_, fun a o e => st'.sub a o (ls.sub a o e), fun p hp => ?_, ls.al, ls.ac, ls.aw, ls.new⟩
  · rcases ok.src b hb with q | ⟨o', q⟩
    · exact .inr (.inr (ls.st.inv0.none (ls.new b q)))
    · obtain ⟨e', sol⟩ := ls.st.pre.led _ _ (ls.sub _ _ q)
      have : o' = o := by
        have e0 : s.heap.get? b = some o := e
        rw [e'] at e0; exact Option.some.inj e0
      exact this ▸ sol.1
  · rcases st'.base b o e with e | e | e
    · exact ls.nl b hb o e
    · obtain ⟨o', q⟩ := ok.here _ _ ls.at_ b (K.sub b hb)
      have e0 : s.heap.get? b = none := e
      rw [q] at e0; cases e0
    · exact nX b (K.sub b hb) e
  · obtain ⟨_, b, _, d, c⟩ := st'.ownAt p hp
    intro hf
    rcases b with e | e | ⟨p', hp', e⟩ | ⟨x, _, _, h3⟩
    · obtain ⟨o', q⟩ := ok.here _ _ ls.at_ _ hf
      have e0 : s.heap.get? p.1 = none := e
      rw [q] at e0; cases e0
    · exact d e
    · exact ls.ao p' hp' (e ▸ hf)
    · exact c x _ h3 rfl
theorem St.afterG (st : St hk H B F wc env look own L s) (ow : Ow hk H ⟨s, L, fun a => ∃ p ∈ own, a = p.1⟩ own' L' s') : St hk H B F wc env look own' L' s' := by
  have up : ∀ a, (Bs.mk s L fun a => ∃ p ∈ own, a = p.1).own a → B.own a := fun a e => by
    rcases e with e | ⟨p, hp, e⟩
    · exact .inl (st.pure.none e)
    · exact e ▸ (st.ownAt p hp).2.1
  have nl : ∀ a, (∃ o, s.heap.get? a = some o) → (∀ o, ¬ L a o) → (∀ p ∈ own, p.1 ≠ a) → ∀ o, ¬ L' a o := fun a ⟨o', e'⟩ n1 n2 o e => by
    rcases ow.base a o e with e | e | ⟨p, hp, e⟩
    · exact n1 _ e
    · have e0 : s.heap.get? a = none := e
      rw [e'] at e0; cases e0
    · exact n2 p hp e.symm
  have kp : ∀ a o, s.heap.get? a = some o → Solid H a o → (∀ p ∈ own, p.1 ≠ a) → s'.heap.get? a = some o := fun a o e c n => ow.pure.keep a o e c fun ⟨p, hp, e⟩ => n p hp e.symm
  have sol : ∀ {a : Addr} {o : Obj}, H.get? a = none → Solid H a o := fun e => .inr (.inr e)
  obtain ⟨la, lb, m, hn⟩ := st.loc
  have lo : ∀ p ∈ own, p.1 ≠ env.locals := fun p hp => (st.ownAt p hp).2.2.2.1
  have nsk : ∀ {a : Addr} {m : Str → Option Value}, (∀ p ∈ own, p.1 ≠ a) → s.heap.Ns a m → s'.heap.Ns a m := fun n x => by
    obtain ⟨o, es, ep, e, hd, r⟩ := x
    exact ⟨o, es, ep, kp _ _ e (.inr (.inl fun vs q => by rw [hd] at q; cases q)) n, hd, r⟩
  have clk : ∀ {c : Addr} {v : Option Value}, (∀ p ∈ own, p.1 ≠ c) → s.heap.IsCell c v → s'.heap.IsCell c v := fun n x => by
    obtain ⟨o, e, hd⟩ := x
    exact ⟨o, kp _ _ e (.inr (.inl fun vs q => by rw [hd] at q; cases q)) n, hd⟩
  have co : ∀ x c, env.cells.lookup x = some c → ∀ p ∈ own, p.1 ≠ c := fun x c h p hp => Ne.symm ((st.ownAt p hp).2.2.2.2 x c h)
  refine ⟨{ st.pre with inv := ow.pure.inv, led := ow.led, cthere := fun x c e => ?_, view := fun x d e => ?_ }, st.inv0, st.no, st.pure.join ow.pure fun a e => up a (.inr e), fun a o e => (ow.base a o e).elim (st.base a o) fun e => .inr (up a e), fun a o e => ow.sub a o (st.sub a o e), fun p hp => ?_, ow.nodup, ⟨la, nl _ (Ns.there hn) lb lo, m, nsk lo hn⟩, fun x c h0 h1 h2 => ?_, st.cells⟩
  · obtain ⟨o, e'⟩ := st.pre.cthere x c e
    exact ow.pure.there c o e'
  · obtain ⟨v, r, i⟩ := st.pre.view x d e
    refine ⟨v, ?_, i.mono ow.sub⟩
    rcases r with ⟨h1, m', h2, h3⟩ | ⟨h1, c, h3, h4⟩
    · exact .inl ⟨h1, m', nsk lo h2, h3⟩
    · exact .inr ⟨h1, c, h3, clk (co x c h3) h4⟩
  · obtain ⟨a, b, c⟩ := ow.ownAt p hp
    have b' := up _ b
    rcases b with b | ⟨p', hp', e⟩
    · have n0 : s.heap.get? p.1 = none := b
      refine ⟨a, b', c, fun z => ?_, fun x c' hc z => ?_⟩
      · obtain ⟨o', e'⟩ := Ns.there hn
        rw [← z, n0] at e'; cases e'
      · obtain ⟨o', e'⟩ := st.pre.cthere x c' hc
        rw [z, n0] at e'; cases e'
    · obtain ⟨_, _, _, d⟩ := st.ownAt p' hp'
      exact ⟨a, b', c, e ▸ d⟩
  · obtain ⟨a, b, v, d⟩ := st.cel x c h0 h1 h2
    exact ⟨a, nl _ (IsCell.there d) b (co x c h2), v, clk (co x c h2) d⟩
theorem comp_list_loopG {R : Result → Shared → Prop} {elt iter : Expr} {ifs : List Expr} {scope : Scope} {pos : Pos} {f : Item → Look → Look} {D : Addr} (wk : WkOk prog w hk t W items Lw) (ok : Ok n A) (hsz : items.length ≤ sizeLine)
    (J : Nat → List PD → Own → Prop) (hJo : ∀ i ys o, J i ys o → ys.length ≤ i)
    (tg : ∀ x ∈ items, TGI prog w hk H F [] t x (f x)) (hf : ∀ x ∈ items, ∀ y d, look y = some d → f x look y = some d)
    (hb : ∀ i x ys o, items[i]? = some x → J i ys o → TURNL prog w hk H n F (f x look) o ifs elt fun r o' => J (i + 1) (ys ++ r.toList) o')
    (h0 : J 0 [] own) (ls0 : LS hk H W Lw B F [] env look ((D, .lst []) :: own) L 0 s)
    (hR : ∀ ys o L' s', J items.length ys o → St hk H B F [] env look ((D, .lst ys) :: o) L' s' → R (.ok .next) s') :
    codeAny (model prog w) A (.compLoop (.ListComp elt [⟨t, iter, ifs, 0⟩] scope pos) 0 (.ref W.I) (.ref D) env) R s := by
  refine compLoop_list (fun k s' => ∃ i ys o L', J i ys o ∧ LS hk H W Lw B F [] env look ((D, .lst ys) :: o) L' i s' ∧ i ≤ items.length ∧ k = items.length + 1 - i) ?_ (items.length + 1) ⟨0, [], own, L, h0, ls0, Nat.zero_le _, rfl⟩
  rintro k s' ⟨i, ys, o, L', hJ, ls, hi, rfl⟩
  by_cases hlt : i < items.length
  · refine ls.item wk ok.handled (x := items[i]) (List.getElem?_eq_getElem hlt) fun v s₃ hgo => hgo _ _ fun s₄ ls₄ iv => ?_
    have it : items[i]? = some items[i] := List.getElem?_eq_getElem hlt
    refine tg items[i] (List.getElem_mem _) A _ s₄ L' env look _ v _ _ ok.handled ls₄.st.rebase iv fun s₅ L₅ _ st₅ => ?_
    refine wpAny_mono (hb i _ ys o it hJ A _ s₅ L₅ env D _ ok st₅) (fun b s₆ e => ?_) fun _ _ f => f.elim
    have next : ∀ ys' o' L'' s₇, J (i + 1) ys' o' → St hk H (St.there ((D, .lst ys) :: o) [] F env L' s₄) F [] env (f items[i] look) ((D, .lst ys') :: o') L'' s₇ → ∃ m, m < items.length + 1 - i ∧ ∃ i ys o L', J i ys o ∧ LS hk H W Lw B F [] env look ((D, .lst ys) :: o) L' i s₇ ∧ i ≤ items.length ∧ m = items.length + 1 - i := fun ys' o' L'' s₇ hJ' st' =>
      ⟨items.length + 1 - (i + 1), by omega, i + 1, ys', o', L'', hJ', ls₄.backG wk (st'.less (hf _ (List.getElem_mem _))), hlt, rfl⟩
    cases b with
    | false =>
      rw [if_neg (by decide)] at e ⊢
      obtain ⟨o', L'', k, st'⟩ := e
      exact next ys o' L'' s₆ (by simpa using k) st'
    | true =>
      rw [if_pos rfl] at e ⊢
      refine wpAny_mono e (fun x s₇ e => ?_) fun _ _ f => f
      obtain ⟨o', L'', d, k, st', iv'⟩ := e
      obtain ⟨vs, n', hD, iA⟩ := (st'.ownAt _ (.head _)).1
      refine wpAny_list_append_plain (hsz := ?_) ⟨n', hD⟩ fun h' hl' hs' => ?_
      · obtain ⟨n'', hl''⟩ := hl'
        refine next (ys ++ [d]) o' L'' _ k (St.own1 (tk := s₇.toks) st' hs' ⟨vs.push x, n'', hl'', ?_⟩)
        rw [Array.toList_push]
        exact iA.append (.cons iv' .nil)
      · have h1 := iA.length
        have h2 := hJo _ _ _ hJ
        have h3 : vs.toList.length = vs.size := Array.length_toList
        omega
  · have hin : i = items.length := by omega
    subst hin
    exact ls.done wk ok.handled rfl fun s₃ st₃ => hR ys o L' s₃ hJ st₃
theorem comp_listG {elt iter : Expr} {ifs : List Expr} {scope : Scope} {pos : Pos} {use : Option (Value → Sem Unit)} {f : Item → Look → Look} {Q : Value → Shared → Prop} {E : Value → Shared → Prop} (ok : Ok n A) (p : Pre hk H F env look L s)
    (hit : IT prog w hk H n F look iter t items) (hsz : items.length ≤ sizeLine)
    (hcl : ∀ y ∈ scope.names, y.2 ≠ .cell) (hkd : scope.kind = .function) (hnames : ∀ x ∈ scope.names, x.2 = .local → scope.names.lookup x.1 = some .local) (hfree : ∀ y ∈ scope.names, y.2 = .free → F.sc.names.lookup y.1 = some .cell ∨ F.sc.names.lookup y.1 = some .free)
    (hs : ∀ x, foldedSetIterable iter env x = pure x)
    (J : Nat → List PD → Own → Prop) (hJo : ∀ i ys o, J i ys o → ys.length ≤ i) (h0 : J 0 [] own)
    (tg : ∀ x ∈ items, TGI prog w hk H (F.comp scope) [] t x (f x)) (hf : ∀ x ∈ items, ∀ y d, compLook F scope look y = some d → f x (compLook F scope look) y = some d)
    (hb : ∀ i x ys o, items[i]? = some x → J i ys o → TURNL prog w hk H n (F.comp scope) (f x (compLook F scope look)) o ifs elt fun r o' => J (i + 1) (ys ++ r.toList) o')
    (hown : ∀ s₂ L₂, Pure H s s₂ → (∀ a o, L a o → L₂ a o) → Holds H L₂ s₂.heap → (∀ a o, L₂ a o → L a o ∨ s.heap.get? a = none) → Ow hk H B own L₂ s₂) (hoc : ∀ p ∈ own, ∀ x c, env.cells.lookup x = some c → c ≠ p.1) (hwn : ∀ b, s.heap.get? b = none → B.s₀.heap.get? b = none)
    (hol : ∀ p ∈ own, (∃ o, s.heap.get? p.1 = some o) ∧ ∀ o, ¬ L p.1 o)
    (hQ : ∀ ys o L' s' D C, J items.length ys o → s.heap.get? C = none → Ow hk H B o L' s' → Is hk L' (.ref D) (.list ys) → (∃ m, s'.heap.Ns C m) → (∀ p ∈ o, p.1 ≠ C) → (∀ o, ¬ L' C o) → compPost (model prog w) A E use Q (.ref D) C (.ok .next) s') :
    wpAny (model prog w) A (comprehension (.ListComp elt [⟨t, iter, ifs, 0⟩] scope pos) scope env iter.pos (newList []) false (eval iter env) use) Q E s := by
  have hclos : closureFor scope env = pure (closFrom env.cells scope.names []) := closureFor_eq fun y hy e => p.has y.1 (hfree y hy e)
  refine wpAny_comprehension_free (g := ⟨t, iter, ifs, 0⟩) (gs := []) rfl hs hclos hkd hnames (wpAny_mono (hit A s L env ok p) (fun x s₁ h₁ => wpAny_mono h₁ (fun it s₂ h₂ => ?_) fun _ _ f => f.elim) fun _ _ f => f.elim)
  obtain ⟨W, L₂, rfl, wk, q, sub, ho, hb₂, hS, hwr⟩ := h₂
  have K := wk.turns A ok.handled
  refine wpAny_newObj_type (wpAny_newFunctionEnv hcl (by intro y hy; simp at hy) (fun h₁ hns₁ hsb₁ => ?_) hkd)
  have p₂ : Pre hk H F env look L₂ s₂ := { p.pure q with led := ho, view := fun x d e => let ⟨v, r, i⟩ := p.view x d e; ⟨v, r.keep q.keep, i.mono sub⟩ }
  have ow₂ := hown s₂ L₂ q sub ho hb₂
  have cell0 : ∀ y, scope.names.lookup y ≠ some .cell := fun y e => hcl _ (mem_of_lookup e) rfl
  have st := compFrame (tk := s₂.toks + ([] : List (Str × Value)).length) (scope := scope) (x0 := .lst []) (h' := h₁) p₂ ow₂ cell0 hkd hfree rfl (fun h e => ⟨_, _, e, .nil⟩) hoc hns₁ hsb₁
  have size1 : (s₂.heap.push ({ cls := .type "list", data := .seq ([] : List Value).toArray } : Obj)).objs.size = s₂.heap.objs.size + 1 := Heap.size_push ..
  have hlt : ∀ b ∈ W.fp, b < s₂.heap.objs.size := fun b hb => let ⟨o, e⟩ := wk.here _ _ hS b hb; Heap.lt_size e
  have nD : s₂.heap.objs.size ∉ W.fp := fun h => Nat.lt_irrefl _ (hlt _ h)
  have nC : (s₂.heap.push ({ cls := .type "list", data := .seq ([] : List Value).toArray } : Obj)).objs.size ∉ W.fp := fun h => by have := hlt _ h; rw [size1] at this; exact Nat.lt_irrefl _ (Nat.lt_of_succ_lt this)
  have old : ∀ b o, s₂.heap.get? b = some o → h₁.get? b = some o := fun b o e =>
    (hsb₁.2 b (by rw [size1]; exact Nat.ne_of_lt (Nat.lt_succ_of_lt (Heap.lt_size e)))).trans (Heap.get?_push_of_some _ (Heap.get?_push_of_some _ e))
  have hS₁ : W.S 0 h₁ := K.frame _ _ _ hS fun b _ o e => old b o e
  have nf : ∀ b, (∃ o, s.heap.get? b = some o) → (∀ o, ¬ L b o) → b ∉ W.fp := fun b ⟨o, e⟩ nl hf => by
    rcases wk.src b hf with h | ⟨o', h⟩
    · rw [hwr b h] at e; cases e
    · rcases hb₂ b o' h with h | h
      · exact nl _ h
      · rw [h] at e; cases e
  have sub' := closFrom_sub env.cells scope.names [] (fun _ _ e => (nomatch e)) fun z hz e => p.has z.1 (hfree z hz e)
  have ls0 : LS hk H W L₂ B (F.comp scope) [] (compEnvC scope (closFrom env.cells scope.names []) (s₂.heap.push ({ cls := .type "list", data := .seq ([] : List Value).toArray } : Obj)).objs.size env) (compLook F scope look) ((s₂.heap.objs.size, .lst []) :: own) L₂ 0
      { s₂ with heap := h₁, toks := s₂.toks + ([] : List (Str × Value)).length } := ⟨st, hS₁, wk.apart, fun _ _ => id, fun pr hp => ?_, nC, fun x c e hm => ?_, fun x c h0 => (nomatch h0), fun b hb => hwn b (hwr b hb)⟩
  · have nCs : s.heap.get? (s₂.heap.push ({ cls := .type "list", data := .seq ([] : List Value).toArray } : Obj)).objs.size = none := q.keep.none (by
      cases z : s₂.heap.get? (s₂.heap.push ({ cls := .type "list", data := .seq ([] : List Value).toArray } : Obj)).objs.size with
      | none => rfl
      | some o => exact absurd (Heap.lt_size z) (by rw [size1]; exact Nat.not_lt.mpr (Nat.le_succ _)))
    have done : codeAny (model prog w) A (.compLoop (.ListComp elt [⟨t, iter, ifs, 0⟩] scope pos) 0 (.ref W.I) (.ref s₂.heap.objs.size) (compEnvC scope (closFrom env.cells scope.names []) (s₂.heap.push ({ cls := .type "list", data := .seq ([] : List Value).toArray } : Obj)).objs.size env))
        (compPost (model prog w) A E use Q (.ref s₂.heap.objs.size) (s₂.heap.push ({ cls := .type "list", data := .seq ([] : List Value).toArray } : Obj)).objs.size) { s₂ with heap := h₁, toks := s₂.toks + ([] : List (Str × Value)).length } := by
      refine comp_list_loopG wk ok hsz J hJo tg hf hb h0 ls0 fun ys o L' s' hJ st' => ?_
      obtain ⟨L'', st'', i'', sub'', src''⟩ := st'.freeze
      obtain ⟨m, hm⟩ := st''.loc.2.2
      exact hQ ys o L'' s' _ _ hJ nCs st''.ow i'' ⟨m, hm⟩ (fun p hp => (st''.ownAt p hp).2.2.2.1) st''.loc.2.1
    exact codeAny_compStart_list done (wk.self A 0 _ _ _ ok.handled hS₁ done)
  · rcases List.mem_cons.mp hp with e | hp
    · subst e; exact nD
    · exact nf _ (hol pr hp).1 (hol pr hp).2
  · obtain ⟨o, e'⟩ := p.cthere x c (sub' x c e)
    rw [hwr c hm] at e'; cases e'
theorem EX.assignGrow {x : Str} {p' apos : Pos} {elt iter : Expr} {scope : Scope} {pos : Pos} {f : Item → Look → Look} {rest : List Stmt} (J : Nat → List PD → Own → Prop)
    (hit : IT prog w hk H n F look iter t items) (hsz : items.length ≤ sizeLine) (hsc : ScOk F scope)
    (hJo : ∀ i ys o, J i ys o → ys.length ≤ i) (h0 : J 0 [] own)
    (tg : ∀ x ∈ items, TGI prog w hk H (F.comp scope) [] t x (f x)) (hf : ∀ x ∈ items, ∀ y d, compLook F scope look y = some d → f x (compLook F scope look) y = some d)
    (hb : ∀ i x ys o, items[i]? = some x → J i ys o → TURNL prog w hk H n (F.comp scope) (f x (compLook F scope look)) o [] elt fun r o' => J (i + 1) (ys ++ r.toList) o')
    (k : ∀ ys o, J items.length ys o → EX prog w hk H n F wc (upd look x (.list ys)) o rest G)
    (hx : F.sc.names.lookup x = some .local ∨ (F.sc.names.lookup x = some .cell ∧ x ∈ wc) := by first | exact .inl rfl | exact .inr ⟨rfl, by simp⟩)
    (hs : ∀ env x, foldedSetIterable iter env x = pure x := by intro _ _; rfl)
    (hsw : ∀ env : Env, env.scope = F.sc → swapsWith (.ListComp elt [⟨t, iter, [], 0⟩] scope pos) (some (.Name x p')) apos.line env = pure true := by intro env h; obtain ⟨sc, a1, a2, a3, a4, a5, a6, a7, a8⟩ := env; dsimp only at h; subst h; rfl)
    (hu : ∀ env use, evalThenUse (.ListComp elt [⟨t, iter, [], 0⟩] scope pos) env use = (do let _ ← cmpL elt t iter [] scope pos env (some use)) := by intro _ _; rfl) :
    EX prog w hk H n F wc look own (.Assign [.Name x p'] (.ListComp elt [⟨t, iter, [], 0⟩] scope pos) apos :: rest) G := fun A B s L env ok st => by
  refine wpAny_execs_cons ?_
  rw [exec_Assign_Name_used _ _ _ _ (hsw env st.pre.scope), hu]
  refine wpAny_bind (wpAny_standAt (wpAny_bind (wpAny_bind (comp_listG (E := fun _ _ => False) (B := ⟨s, L, fun a => ∃ p ∈ own, a = p.1⟩) ok st.pre hit hsz hsc.cell hsc.kind hsc.names hsc.free (hs env) J hJo h0 tg hf hb (fun s₂ L₂ q sub ho hbb => ?_) (fun p hp => (st.ownAt p hp).2.2.2.2) (fun b e => e) (fun p hp => ⟨(st.ownAt p hp).1.there, (st.ownAt p hp).2.2.1⟩) fun ys o L' s' D C hJ hC ow i ⟨m, hn⟩ hlo hl => ?_))))
  · have st₂ := st.stepL q sub ho hbb
    refine ⟨st.pre.inv, fun a e => ?_, PureX.of q, fun a o e => (hbb a o e).imp id fun e => .inl e, sub, ho, fun p hp => ?_, st.nodup⟩
    · obtain ⟨p, hp, rfl⟩ := e; exact st.mine (st.ownAt p hp).2.1
    · obtain ⟨a, b, c, _⟩ := st₂.ownAt p hp
      exact ⟨a, .inr ⟨p, hp, rfl⟩, c⟩
  · have st' : St hk H B F wc env look o L' s' := st.afterG ow
    have ne : ∀ {a : Addr}, (∃ o, s.heap.get? a = some o) → a ≠ C := fun ⟨o, e⟩ q => by rw [q, hC] at e; cases e
    refine wpAny_assign_Name (st'.rebase.store i hx fun s'' st'' => ?_)
    have nX : ¬ (St.there o wc F env L' s').X C := fun e => by
      rcases e with e | ⟨p, hp, e⟩ | ⟨y, h1, h2, h3⟩
      · exact ne (by obtain ⟨_, _, m, c⟩ := st.loc; exact Ns.there c) e.symm
      · exact hlo p hp e.symm
      · exact ne (st.pre.cthere y C h3) rfl
    have hn'' : s''.heap.Ns C m := by
      obtain ⟨o, es, ep, e, hd, r⟩ := hn
      exact ⟨o, es, ep, st''.pure.keep _ _ e (.inr (.inl fun vs q => by rw [hd] at q; cases q)) nX, hd, r⟩
    refine ⟨m, hn'', fun h' hs' => wpAny_pure (wpAny_pure ?_)⟩
    have stf := st'.back st''
    have st5 := stf.but (tk := s''.toks) (h' := h') (wr := [C]) (fun b hb => by rw [List.mem_singleton.mp hb]; exact st.pure.none hC) (fun b hb => by rw [List.mem_singleton.mp hb]; exact hl)
      (fun p hp h => hlo p hp (List.mem_singleton.mp h)) (fun h => ne (by obtain ⟨_, _, m, c⟩ := st.loc; exact Ns.there c) (List.mem_singleton.mp h))
      (fun y c e h => ne (st.pre.cthere y c e) (List.mem_singleton.mp h)) (fun b hb => by rw [List.mem_singleton.mp hb]; exact RecAt.ns hn'') (fun b o hb e => (hs'.2 b fun q => hb (by simp [q])).trans e)
    exact k ys o hJ A B _ L' env ok st5
end
end Mine
end

section -- N3
open PySem PySem.Calls PySem.W PyProof.Rows PySem.SeqAt PySem.MeetsSeq
set_option maxRecDepth 100000
set_option linter.unusedVariables false
namespace Mine
section
variable {prog : Program} {w : World} {H : Heap} {hk : PD → Int} {n m : Nat} {F : Fm} {wc : List Str} {look : Look} {own own' : Own} {A : Around} {B : Bs} {s s' s₁ : Shared} {L L' L₂ Lw M : Led} {env : Env} {E : Value → Shared → Prop} {K : Frag} {G : Goal} {t : Expr} {items : List Item} {W : Wk} {i : Nat}
/-- a list's items -/
theorem iter_list {v : Value} {ds : List PD} (i : Is hk L v (.list ds)) (inv : Inv H s₁.heap) (led : Holds H L s₁.heap) : wpAny (model prog w) A (pyIter v) (fun it s₂ =>
    ∃ W L₂, it = .ref W.I ∧ WkOk prog w hk t W (ds.map .one) L₂ ∧ Pure H s₁ s₂ ∧ (∀ a o, L a o → L₂ a o) ∧ Holds H L₂ s₂.heap ∧ (∀ a o, L₂ a o → L a o ∨ s₁.heap.get? a = none) ∧ W.S 0 s₂.heap ∧ (∀ b ∈ W.wr, s₁.heap.get? b = none)) (fun _ _ => False) s₁ := by
  cases i with
  | @list ax lo vs nn _ h1 h2 h3 h4 =>
    have hl : s₁.heap.IsList ax vs := ⟨lo, (led _ _ h1).1, h2, nn, h3⟩
    have hne : ax ≠ s₁.heap.objs.size := Nat.ne_of_lt (Heap.lt_size (led _ _ h1).1)
    refine wpAny_pyIter_list hl ?_
    have q₁ : Pure H s₁ { s₁ with heap := s₁.heap.push { cls := .type "list_iterator", data := .fields #[.ref ax, .int 0 0] } } := .push inv _
    have nI : s₁.heap.get? s₁.heap.objs.size = none := get_size _
    refine ⟨⟨s₁.heap.objs.size, [s₁.heap.objs.size, ax], [s₁.heap.objs.size], vs.size, fun i v _ => vs[i]? = some v, fun i v h => vs[i]? = some v ∧ h.IsListIter s₁.heap.objs.size ax (i + 1) ∧ h.IsList ax vs, fun i h => h.IsListIter s₁.heap.objs.size ax i ∧ h.IsList ax vs⟩, L, rfl, ?_, q₁, fun _ _ => id, led.keep q₁.keep, fun a o e => .inl e, ?_, ?_⟩
    · refine ⟨fun A hh => KTurns.ofWalks (Walks.list hh _ ax hne vs) fun i v s Q E st q => letGo_listiter st.1 q, by rw [h4.arr, List.length_map], fun i v h L' x sub hv hx => items_one h4 sub hv hx, fun A i s Q E hh st hQ => (Walks.list hh _ ax hne vs).self i s Q E st hQ, fun i h st b hb => ?_, fun b hb => ?_, fun b hb o e => ?_, fun i h st b hb => List.mem_singleton.mp hb ▸ noRec_liter st.1, fun i v h st b hb => List.mem_singleton.mp hb ▸ noRec_liter st.2.1⟩
      · rcases List.mem_cons.mp hb with e | hb
        · obtain ⟨o, ho, _⟩ := st.1; exact ⟨o, e ▸ ho⟩
        · obtain ⟨o, ho, _⟩ := st.2; exact ⟨o, List.mem_singleton.mp hb ▸ ho⟩
      · rcases List.mem_cons.mp hb with e | hb
        · exact .inl (by simp [e])
        · exact .inr ⟨lo, List.mem_singleton.mp hb ▸ h1⟩
      · have e1 := (led _ _ e).1
        rw [List.mem_singleton.mp hb, get_size] at e1; cases e1
    · exact ⟨⟨_, Heap.get?_push_size _ rfl, rfl, rfl⟩, hl.at fun o e => Heap.get?_push_of_some _ e⟩
    · intro b hb; rw [List.mem_singleton.mp hb]; exact nI
theorem EX1.forX {iter : Expr} {body : List Stmt} {pos : Pos} {f : Item → Look → Look} {ds : List PD} (J : Nat → Look → Own → Prop) (hit : EVX prog w hk H n F wc look own iter (fun d o => d = .list ds ∧ o = own)) (h0 : J 0 look own) (hJo : ∀ i l o, J i l o → o.map (·.1) = own.map (·.1))
    (tg : ∀ x ∈ ds.map Item.one, TGI prog w hk H F wc t x (f x))
    (hb : ∀ i x l o, (ds.map Item.one)[i]? = some x → J i l o → EX prog w hk H n F wc (f x l) o body ⟨J (i + 1), J (i + 1), G.R⟩)
    (hend : ∀ l o, J (ds.map Item.one).length l o → G.N l o) (hs : ∀ env x, foldedSetIterable iter env x = pure x := by intro _ _; rfl) :
    EX1 prog w hk H n F wc look own (.For t iter body [] pos) G := fun A B s L env ok st => by
  refine wpAny_For (wpAny_mono (hit A B s L env ok st) (fun x s₁ h₁ => ?_) fun _ _ f => f.elim) (hs env)
  obtain ⟨_, o0, L1, ⟨rfl, e0⟩, st1, i1, _⟩ := h₁
  rw [e0] at st1
  refine wpAny_mono (iter_list (t := t) i1 st1.pre.inv st1.pre.led) (fun it s₂ h₂ => ?_) fun _ _ f => f.elim
  obtain ⟨W, L₂, rfl, wk, q, sub, ho, hb₂, hS, hwr⟩ := h₂
  have K := wk.turns A ok.handled
  have nf : ∀ b, (∃ o, s₁.heap.get? b = some o) → (∀ o, ¬ L1 b o) → b ∉ W.fp := fun b ⟨o, e⟩ nl hf => by
    rcases wk.src b hf with h | ⟨o', h⟩
    · rw [hwr b h] at e; cases e
    · rcases hb₂ b o' h with h | h
      · exact nl _ h
      · rw [h] at e; cases e
  have ls0 : LS hk H W L₂ B F wc env look own L₂ 0 s₂ := ⟨st1.stepL q sub ho hb₂, hS, wk.apart, fun _ _ => id, fun p hp => nf _ (st1.ownAt p hp).1.there (st1.ownAt p hp).2.2.1,
    nf _ (by obtain ⟨_, _, m, c⟩ := st1.loc; exact Ns.there c) st1.loc.2.1, fun x c hc hf => ?_, fun x c h0 h1 h2 => nf _ (by obtain ⟨_, _, v, d⟩ := st1.cel x c h0 h1 h2; exact IsCell.there d) (st1.cel x c h0 h1 h2).2.1, fun b hb => st1.pure.none (hwr b hb)⟩
  · refine codeAny_forLoop_any (fun k s' => ∃ i l o L', J i l o ∧ LS hk H W L₂ B F wc env l o L' i s' ∧ i ≤ (ds.map Item.one).length ∧ k = (ds.map Item.one).length + 1 - i) ?_ ((ds.map Item.one).length + 1) ⟨0, look, own, L₂, h0, ls0, Nat.zero_le _, rfl⟩
    rintro k s' ⟨i, l, o, L', hJ, ls, hi, rfl⟩
    by_cases hlt : i < (ds.map Item.one).length
    · refine ls.item wk ok.handled (x := (ds.map Item.one)[i]) (List.getElem?_eq_getElem hlt) fun v s₃ hgo => hgo _ _ fun s₄ ls₄ iv => ?_
      have it : (ds.map Item.one)[i]? = some (ds.map Item.one)[i] := List.getElem?_eq_getElem hlt
      refine tg (ds.map Item.one)[i] (List.getElem_mem _) A _ s₄ L' env l o v _ _ ok.handled ls₄.st.rebase iv fun s₅ L₅ _ st₅ => ?_
      refine wpAny_mono (hb i _ l o it hJ A _ s₅ L₅ env ok st₅) (fun fl s₆ e => ?_) fun _ _ f => f.elim
      have next : ∀ l' o' L'', J (i + 1) l' o' → St hk H (St.there o wc F env L' s₄) F wc env l' o' L'' s₆ → ∃ m, m < (ds.map Item.one).length + 1 - i ∧ ∃ i l o L', J i l o ∧ LS hk H W L₂ B F wc env l o L' i s₆ ∧ i ≤ (ds.map Item.one).length ∧ m = (ds.map Item.one).length + 1 - i := fun l' o' L'' hJ' st' =>
        ⟨(ds.map Item.one).length + 1 - (i + 1), by omega, i + 1, l', o', L'', hJ', ls₄.back wk st' (by rw [hJo _ _ _ hJ', hJo _ _ _ hJ]), hlt, rfl⟩
      cases fl with
      | next => obtain ⟨l', o', L'', e1, e2⟩ := e; exact next l' o' L'' e1 e2
      | cont => obtain ⟨l', o', L'', e1, e2⟩ := e; exact next l' o' L'' e1 e2
      | brk => exact e.elim
      | ret v =>
        obtain ⟨l', o', L'', d, e1, e2, e3⟩ := e
        exact ⟨l', o', L'', d, e1, ls₄.st.back e2, e3⟩
    · have hin : i = (ds.map Item.one).length := by omega
      refine ls.done wk ok.handled hin fun s₃ st₃ => wpAny_execs_nil ?_
      subst hin
      exact ⟨l, o, L', hend l o hJ, st₃⟩
  · obtain ⟨o, e⟩ := st1.pre.cthere x c hc
    rw [hwr c hf] at e; cases e
/-- an expression that looks at own objects and changes none -/
def EVO (prog : Program) (w : World) (hk : PD → Int) (H : Heap) (n : Nat) (F : Fm) (wc : List Str) (look : Look) (own : Own) (e : Expr) (d : PD) : Prop :=
  ∀ (A : Around) (B : Bs) (s : Shared) (L : Led) (env : Env), Ok n A → St hk H B F wc env look own L s → wpAny (model prog w) A (eval e env) (Post hk H L s d) (fun _ _ => False) s
theorem EVO.pure {e : Expr} {d : PD} (h : EV prog w hk H n F look e d) : EVO prog w hk H n F wc look own e d := fun A B s L env ok st => h A s L env ok st.pre
theorem EVO.perm {e : Expr} {d : PD} (hp : own.Perm own') (h : EVO prog w hk H n F wc look own' e d) : EVO prog w hk H n F wc look own e d := fun A B s L env ok st => h A B s L env ok (st.perm hp)
theorem EVO.toX {e : Expr} {d : PD} {K : PD → Own → Prop} (h : EVO prog w hk H n F wc look own e d) (k : K d own) : EVX prog w hk H n F wc look own e K := fun A B s L env ok st =>
  wpAny_mono (h A B s L env ok st) (fun v s' e => ⟨d, own, _, k, st.step e.1, e.2, fun _ _ => .inl⟩) fun _ _ f => f
theorem ETO.pure {e : Expr} {b : Bool} (h : ET prog w hk H n F look e b) : ETO prog w hk H n F wc look own e b := fun A B s L env ok st => h A s L env ok st.pre
theorem ETO.perm {e : Expr} {b : Bool} (hp : own.Perm own') (h : ETO prog w hk H n F wc look own' e b) : ETO prog w hk H n F wc look own e b := fun A B s L env ok st => h A B s L env ok (st.perm hp)
/-- what is known of the parts of a table -/
theorem getL_none {name : Str} : ∀ {l : List DictEntry} {xs : List (Str × PD)}, IsEs hk L l (sEs xs) → (xs.all fun p => !(p.1 == name)) = true → getL name l = some .none
  | l, [], h, _ => by cases h; rfl
  | l, y :: ys, h, ha => by
    cases h with
    | @cons e l' _ _ h1 h2 h3 h4 =>
      rw [List.all_cons, Bool.and_eq_true] at ha
      obtain ⟨eh, ek, ev⟩ := e
      have h2 : Is hk L ek (.str y.1) := h2
      cases h2 with
      | str _ t =>
        have ih := getL_none h4 ha.2
        have e1 : (Value.str y.1 t).isStr name = false := by
          show (y.1 == name) = false
          simpa using ha.1
        unfold getL at ih ⊢
        rw [List.find?_cons, e1]
        dsimp only
        cases hq : l'.find? (fun x => x.key.isStr name) with
        | some e' => rw [hq] at ih; cases ih
        | none =>
          rw [hq] at ih
          dsimp only at ih ⊢
          split at ih
          · cases ih
          · rename_i hc
            rw [if_neg]
            rw [List.any_cons]
            exact hc
mutual
/-- data that hangs on no object -/
def cleanD (at_ : Bool) : PD → Bool
  | .val _ => true
  | .int _ => true
  | .str _ => true
  | .intz _ => true
  | .strz _ => true
  | .any => true
  | .list xs => cleanL at_ xs
  | .tup xs => cleanL at_ xs
  | .dict [] => true
  | .attr _ => at_
  | _ => false
def cleanL (at_ : Bool) : List PD → Bool
  | [] => true
  | x :: r => cleanD at_ x && cleanL at_ r
end
/-- the ledger but for instances and their tables -/
def ButInst (at_ : Bool) (M L : Led) : Prop := ∀ a o, M a o → L a o ∨ (∃ C dx, o = instObj C dx ∧ (at_ = true → C ≠ attrC)) ∨ ∃ es n, o = ({ cls := .type "dict", data := .dict es n } : Obj) ∧ es.toList ≠ [] ∧ (at_ = true → getL "alias" es.toList = some .none)
mutual
theorem Is.strip {b : Bool} (X : ButInst b M L) : ∀ {v : Value} {d : PD}, Is hk M v d → cleanD b d = true → Is hk L v d
  | _, _, .val v, _ => .val v
  | _, _, .int i t, _ => .int i t
  | _, _, .str x t, _ => .str x t
  | _, _, .list (o := o) h1 h2 h3 h4, hc => by
    rw [cleanD] at hc
    refine .list ?_ h2 h3 (IsAll.strip X h4 hc)
    rcases X _ _ h1 with h | ⟨C, dx, rfl, _⟩ | ⟨es, n, rfl, _⟩
    · exact h
    · cases h3
    · cases h3
  | _, _, .tup h1 h2 h3 h4, hc => by
    rw [cleanD] at hc
    refine .tup ?_ h2 h3 (IsAll.strip X h4 hc)
    rcases X _ _ h1 with h | ⟨C, dx, rfl, _⟩ | ⟨es, n, rfl, _⟩
    · exact h
    · cases h3
    · cases h3
  | _, _, .dict (xs := xs) h1 h2 h3 h4, hc => by
    cases xs with
    | cons => simp [cleanD] at hc
    | nil =>
      generalize he : (_ : Array DictEntry).toList = l at h4
      cases h4
      refine .dict ?_ h2 h3 (he ▸ .nil)
      rcases X _ _ h1 with h | ⟨C, dx, rfl, _⟩ | ⟨es, n, rfl, hne, _⟩
      · exact h
      · cases h3
      · cases h3; exact absurd he hne
  | _, _, .obj .., hc => by simp [cleanD] at hc
  | _, _, .kind .., hc => by simp [cleanD] at hc
  | _, _, .attr h, hc => by
    rw [cleanD] at hc
    subst hc
    obtain ⟨ad, es, n, t1, t2, h1, h2, e1, e2, r⟩ := h
    refine .attr ⟨ad, es, n, t1, t2, ?_, ?_, e1, e2, r⟩
    · rcases X _ _ h1 with h | ⟨C, dx, e, hC⟩ | ⟨es, n, e, _⟩
      · exact h
      · have : (Value.ref attrC) = .ref C := congrArg Obj.cls e
        cases this
        exact absurd rfl (hC rfl)
      · have := congrArg Obj.data e; cases this
    · rcases X _ _ h2 with h | ⟨C, dx, e, hC⟩ | ⟨es', n', e, _, ha⟩
      · exact h
      · have := congrArg Obj.data e; cases this
      · have : es.toArray = es' := by have := congrArg Obj.data e; injection this
        subst this
        have := ha rfl
        rw [List.toList_toArray] at this
        rw [this] at e2; cases e2
  | _, _, .clo .., hc => by simp [cleanD] at hc
  | _, _, .intz i t h, _ => .intz i t h
  | _, _, .strz x t h, _ => .strz x t h
  | _, _, .inst .., hc => by simp [cleanD] at hc
  | _, _, .ins .., hc => by simp [cleanD] at hc
  | _, _, .any a, _ => .any a
theorem IsAll.strip {b : Bool} (X : ButInst b M L) : ∀ {v : List Value} {d : List PD}, IsAll hk M v d → cleanL b d = true → IsAll hk L v d
  | _, _, .nil, _ => .nil
  | _, _, .cons h1 h2, hc => by
    rw [cleanL, Bool.and_eq_true] at hc
    exact .cons (Is.strip X h1 hc.1) (IsAll.strip X h2 hc.2)
end
end
end Mine
end

section -- N4
open PySem PySem.Calls PySem.W PyProof.Rows PySem.SeqAt PySem.MeetsSeq
set_option maxRecDepth 100000
set_option linter.unusedVariables false
namespace Mine
section
variable {prog : Program} {w : World} {H : Heap} {hk : PD → Int} {n m : Nat} {F : Fm} {wc : List Str} {look : Look} {own own' : Own} {A : Around} {B : Bs} {s s' s₁ : Shared} {L L' L₂ Lw M : Led} {env : Env} {E : Value → Shared → Prop} {K : Frag} {G : Goal}
theorem getL_some {name : Str} {r : PD} : ∀ {l : List DictEntry} {ys : List (Str × PD)}, IsEs hk L l (sEs ys) → ys.find? (fun p => p.1 == name) = some (name, r) → ∃ v, getL name l = some (some v) ∧ Is hk L v r := by
  intro l
  induction l with
  | nil => intro ys h hf; cases ys with
    | nil => cases hf
    | cons => cases h
  | cons e l ih =>
    intro ys h hf
    cases ys with
    | nil => cases h
    | cons y ys =>
      obtain ⟨eh, ek, ev⟩ := e
      cases h with
      | cons h1 h2 h3 h4 =>
        have h2 : Is hk L ek (.str y.1) := h2
        cases h2 with
        | str _ t =>
          rw [List.find?_cons] at hf
          have e1 : (Value.str y.1 t).isStr name = (y.1 == name) := rfl
          cases q : y.1 == name with
          | true =>
            rw [q] at hf
            cases hf
            refine ⟨ev, ?_, h3⟩
            unfold getL
            rw [List.find?_cons, e1]
            simp
          | false =>
            rw [q] at hf
            obtain ⟨v, hv, iv⟩ := ih h4 hf
            refine ⟨v, ?_, iv⟩
            unfold getL at hv ⊢
            rw [List.find?_cons, e1, q]
            dsimp only
            cases hq : l.find? (fun x => x.key.isStr name) with
            | some e' => rw [hq] at hv; exact hv
            | none => rw [hq] at hv; dsimp only at hv; split at hv <;> cases hv
/-- an own object is looked at -/
def viewOk (b : Bool) (C : Addr) (xs : List (Str × PD)) : Bool := !xs.isEmpty && (!b || (!(C == attrC) && xs.all fun p => !(p.1 == ("alias" : Str))))
theorem St.viewI {b : Bool} {a C D : Addr} {xs : List (Str × PD)} (st : St hk H B F wc env look ((D, .dct (sEs xs)) :: (a, .ins C D) :: own) L s) (hv : viewOk b C xs = true) :
    ∃ L', St hk H B F wc env look own L' s ∧ Is hk L' (.ref a) (.inst C (sEs xs)) ∧ (∀ a o, L a o → L' a o) ∧ ButInst b L' L := by
  unfold viewOk at hv
  rw [Bool.and_eq_true] at hv
  obtain ⟨⟨ds, nn, hD, iD⟩, _⟩ := st.ownAt _ (.head _)
  obtain ⟨hA, _⟩ := st.ownAt _ (.tail _ (.head _))
  obtain ⟨L₁, st₁, i₁, sub₁, b₁⟩ := st.freeze
  obtain ⟨L₂, st₂, i₂, sub₂, b₂⟩ := st₁.freeze
  have i₂' : Is hk L₂ (.ref a) (.ins C D) := i₂
  cases i₂' with
  | ins h =>
  refine ⟨L₂, st₂, .inst h (i₁.mono sub₂), fun a o e => sub₂ _ _ (sub₁ _ _ e), fun b' o e => ?_⟩
  have hh := (st₂.pre.led _ _ e).1
  rcases b₂ _ _ e with e1 | rfl
  · rcases b₁ _ _ e1 with e1 | rfl
    · exact .inl e1
    · refine .inr (.inr ⟨ds, nn, ?_, fun z => ?_, fun hb => ?_⟩)
      · exact Option.some.inj (hh.symm.trans hD)
      · rw [z] at iD
        cases xs with
        | nil => cases hv.1
        | cons => cases iD
      · subst hb
        simp only [Bool.not_true, Bool.false_or, Bool.and_eq_true] at hv
        exact getL_none iD hv.2.2
  · refine .inr (.inl ⟨C, D, Option.some.inj (hh.symm.trans hA), fun hb => ?_⟩)
    subst hb
    simp only [Bool.not_true, Bool.false_or, Bool.and_eq_true] at hv
    intro hC
    have := hv.2.1
    rw [hC] at this
    simp at this
theorem St.look1 {x : Str} {a : Addr} {d : PD} (st : St hk H B F wc env look own L s) (st' : St hk H B F wc env look own' L' s) (hx : look x = some (.val (.ref a))) (i : Is hk L' (.ref a) d) : St hk H B F wc env (upd look x d) own' L' s := by
  have vw : ∀ z d', upd look x d z = some d' → ∃ v, Reads1 s.heap env z v ∧ Is hk L' v d' := fun z d' e => by
    unfold upd at e
    split at e
    · obtain rfl := Option.some.inj e
      rename_i hz
      obtain ⟨v, r, iv⟩ := st.pre.view x _ hx
      cases iv
      exact ⟨_, hz ▸ r, i⟩
    · exact st'.pre.view z d' e
  exact { st' with pre := { st'.pre with view := vw } }
theorem ButInst.or {b : Bool} {X : Led} (h : ButInst b L' L) : ButInst b (L'.or X) (L.or X) := fun a o e => e.elim (fun e => (h a o e).imp .inl id) fun e => .inl (.inr e)
theorem ETO.viewI {x : Str} {a C D : Addr} {xs : List (Str × PD)} {e : Expr} {b : Bool} (hx : look x = some (.val (.ref a))) (h : ETO prog w hk H n F wc (upd look x (.inst C (sEs xs))) own e b) (hv : viewOk false C xs = true := by rfl) :
    ETO prog w hk H n F wc look ((D, .dct (sEs xs)) :: (a, .ins C D) :: own) e b := fun A B s L env ok st => by
  obtain ⟨L', st', i, sub, _⟩ := st.viewI hv
  exact h A B s L' env ok (st.look1 st' hx i)
theorem EVO.viewI {x : Str} {a C D : Addr} {xs : List (Str × PD)} {e : Expr} {b : Bool} {d : PD} (hx : look x = some (.val (.ref a))) (h : EVO prog w hk H n F wc (upd look x (.inst C (sEs xs))) own e d) (hc : cleanD b d = true) (hv : viewOk b C xs = true := by rfl) :
    EVO prog w hk H n F wc look ((D, .dct (sEs xs)) :: (a, .ins C D) :: own) e d := fun A B s L env ok st => by
  obtain ⟨L', st', i, sub, bt⟩ := st.viewI hv
  refine wpAny_mono (h A B s L' env ok (st.look1 st' hx i)) (fun v s' e => ⟨e.1, ?_⟩) fun _ _ f => f
  exact Is.strip bt.or e.2 hc
/-- a row of two own objects is looked at -/
theorem EVO.viewL {x : Str} {a1 a2 C D1 D2 : Addr} {xs ys : List (Str × PD)} {e : Expr} {b : Bool} {d : PD} (hx : look x = some (.list [.val (.ref a1), .val (.ref a2)])) (h : EVO prog w hk H n F wc (upd look x (.list [.inst C (sEs xs), .inst C (sEs ys)])) own e d) (hc : cleanD b d = true) (hv : viewOk b C xs = true := by rfl) (hv' : viewOk b C ys = true := by rfl) :
    EVO prog w hk H n F wc look ((D1, .dct (sEs xs)) :: (a1, .ins C D1) :: (D2, .dct (sEs ys)) :: (a2, .ins C D2) :: own) e d := fun A B s L env ok st => by
  obtain ⟨L₁, st₁, i₁, sub₁, bt₁⟩ := st.viewI hv
  obtain ⟨L₂, st₂, i₂, sub₂, bt₂⟩ := st₁.viewI hv'
  have vw : ∀ z d', upd look x (.list [.inst C (sEs xs), .inst C (sEs ys)]) z = some d' → ∃ v, Reads1 s.heap env z v ∧ Is hk L₂ v d' := fun z d' e => by
    unfold upd at e
    split at e
    · obtain rfl := Option.some.inj e
      rename_i hz
      obtain ⟨v, r, iv⟩ := st.pre.view x _ hx
      refine ⟨v, hz ▸ r, ?_⟩
      cases iv with
      | list g1 g2 g3 g4 =>
        obtain ⟨u1, u2, eu, j1, j2⟩ := g4.two
        cases j1; cases j2
        exact .list (sub₂ _ _ (sub₁ _ _ g1)) g2 g3 (eu ▸ .cons (i₁.mono sub₂) (.cons i₂ .nil))
    · exact st₂.pre.view z d' e
  have st3 : St hk H B F wc env (upd look x (.list [.inst C (sEs xs), .inst C (sEs ys)])) own L₂ s := { st₂ with pre := { st₂.pre with view := vw } }
  refine wpAny_mono (h A B s L₂ env ok st3) (fun v s' e => ⟨e.1, ?_⟩) fun _ _ f => f
  exact Is.strip bt₁.or (Is.strip bt₂.or e.2 hc) hc
/-- an own attribute takes what is found by a look at own objects -/
theorem EX.setAttrO {x : Str} {px apos pos : Pos} {name : Str} {e : Expr} {a C D : Addr} {d : PD} {xs : List (Str × PD)} {rest : List Stmt} (X : Env0 K H) (hx : look x = some (.val (.ref a))) (h : EVO prog w (hkW w) H n F wc look ((D, .dct (sEs xs)) :: (a, .ins C D) :: own) e d) (hC : setOk K C name = true)
    (k : EX prog w (hkW w) H n F wc look ((D, .dct (sEs (putS name d xs))) :: (a, .ins C D) :: own) rest G) (hz : xs.length ≤ 900 := by exact Nat.le_of_ble_eq_true rfl)
    (hs : ∀ env, swapsWith e (some (.Attribute (.Name x px) name apos)) pos.line env = pure false := by intro _; rfl) (hdb : (x == ("__debug__" : Str)) = false := by rfl) :
    EX prog w (hkW w) H n F wc look ((D, .dct (sEs xs)) :: (a, .ins C D) :: own) (.Assign [.Attribute (.Name x px) name apos] e pos :: rest) G := .step fun A B s L env ok st =>
  plainObj_wpAny_Assign_Attribute (wpAny_mono (h A B s L env ok st) (fun v s₁ e => by
    obtain ⟨q₁, i₁⟩ := e
    exact (EV.name (prog := prog) (w := w) (n := n) hx hdb).use ok (st.step q₁).pre fun o s₂ q₂ i₂ p₂ => by
      cases i₂
      exact St.setAttr X hC ((st.step q₁).step q₂) (i₁.mono fun _ _ => .inl) hz fun s₃ st₃ => ⟨_, _, _, k, st₃⟩) fun _ _ f => f) (hs env)
theorem EX.ifTO {t : Expr} {a b rest : List Stmt} {pos : Pos} (ht : ETO prog w hk H n F wc look own t true) (h : EX prog w hk H n F wc look own a { G with N := fun l o => EX prog w hk H n F wc l o rest G }) :
    EX prog w hk H n F wc look own (.If t a b pos :: rest) G := .step fun A B s L env ok st =>
  wpAny_If (ht.use ok st fun s' q st' => h A B s' _ env ok st')
theorem EX.ifFO {t : Expr} {a b rest : List Stmt} {pos : Pos} (ht : ETO prog w hk H n F wc look own t false) (h : EX prog w hk H n F wc look own b { G with N := fun l o => EX prog w hk H n F wc l o rest G }) :
    EX prog w hk H n F wc look own (.If t a b pos :: rest) G := .step fun A B s L env ok st =>
  wpAny_If (ht.use ok st fun s' q st' => h A B s' _ env ok st')
/-- a turn that keeps its element, whose test looks at own objects -/
theorem TURNL.keepO {o : Own} {elt c : Expr} {d : PD} {K : Option PD → Own → Prop} (ht : ∀ D x, ETO prog w hk H n F [] look ((D, x) :: o) c true) (h : EV prog w hk H n F look elt d) (k : K (some d) o) : TURNL prog w hk H n F look o [c] elt K := fun A B s L env D x ok st => by
  refine wpAny_mono (wpAny_tests_one (ht D x A B s L env ok st)) (fun t s₁ e => ?_) fun _ _ f => f
  obtain ⟨rfl, q⟩ := e
  rw [if_pos rfl]
  have st₁ := st.step q
  exact h.use ok st₁.pre fun v s₂ q₂ i₂ p₂ => ⟨o, _, d, k, st₁.step q₂, i₂⟩
/-- a turn whose element brings new own objects -/
theorem TURNL.grow {o : Own} {elt : Expr} {K : Option PD → Own → Prop} {K' : PD → Own → Prop} (h : EVN prog w hk H n F look elt K') (k : ∀ d o', K' d o' → K (some d) (o' ++ o)) : TURNL prog w hk H n F look o [] elt K := fun A B s L env D x ok st => by
  refine wpAny_mono (ETS.nil (prog := prog) (w := w) (n := n) A s L env ok st.pre) (fun t s₁ e => ?_) fun _ _ f => f
  obtain ⟨rfl, q⟩ := e
  rw [if_pos rfl]
  have st₁ := st.step q
  refine wpAny_mono (h A s₁ _ env ok st₁.pre) (fun v s₂ e => ?_) fun _ _ f => f
  obtain ⟨d, o', L', hK, q', i, sub, ho, hb, hO, nd⟩ := e
  refine ⟨o' ++ o, L', d, k d o' hK, (st₁.addOwns q' sub ho hb hO nd).perm ?_, i⟩
  exact List.perm_middle
end
end Mine
end

section -- N5
open PySem PySem.Calls PySem.W PyProof.Rows PySem.SeqAt PySem.MeetsSeq
set_option maxRecDepth 100000
set_option linter.unusedVariables false
namespace Mine
section
variable {prog : Program} {w : World} {H : Heap} {hk : PD → Int} {n m : Nat} {F : Fm} {wc : List Str} {look : Look} {own own' : Own} {A : Around} {B : Bs} {s s' s₁ : Shared} {L L' L₂ Lw : Led} {env : Env} {E : Value → Shared → Prop} {K : Frag} {G : Goal} {t : Expr} {items : List Item} {W : Wk} {i : Nat}
theorem compFrame0 {scope : Scope} {od : Obj} {h' : Heap} {tk : Nat} {m : Str → Option Value} (p : Pre hk H F env look L s) (ow : Ow hk H B own L s) (hcl : ∀ y, scope.names.lookup y ≠ some .cell) (hkd : scope.kind = .function)
    (hfree : ∀ y ∈ scope.names, y.2 = .free → F.sc.names.lookup y.1 = some .cell ∨ F.sc.names.lookup y.1 = some .free)
    (hoc : ∀ p ∈ own, ∀ x c, env.cells.lookup x = some c → c ≠ p.1) (hn : h'.Ns s.heap.objs.size m) (hs : Heap.SameBut s.heap.objs.size (s.heap.push od) h') :
    St hk H B (F.comp scope) [] (compEnvC scope (closFrom env.cells scope.names []) s.heap.objs.size env) (compLook F scope look) own L { s with heap := h', toks := tk } := by
  have lt : ∀ {a : Addr} {o : Obj}, s.heap.get? a = some o → a ≠ s.heap.objs.size := fun e => Nat.ne_of_lt (Heap.lt_size e)
  have old : ∀ b o, s.heap.get? b = some o → h'.get? b = some o := fun b o e =>
    (hs.2 b (lt e)).trans (Heap.get?_push_of_some _ e)
  have q : Pure H s { s with heap := h', toks := tk } := .all p.inv old
  have nC : s.heap.get? s.heap.objs.size = none := get_size _
  have nL : ∀ {a : Addr}, s.heap.get? a = none → ∀ o, ¬ L a o := fun e o h => by rw [(p.led _ _ h).1] at e; cases e
  have hall : ∀ z ∈ scope.names, z.2 = .free → ∃ c, env.cells.lookup z.1 = some c := fun z hz e => p.has z.1 (hfree z hz e)
  have sub := closFrom_sub env.cells scope.names [] (fun _ _ e => (nomatch e)) hall
  refine ⟨⟨q.inv, p.led.keep q.keep, ?_, hkd, p.glob, p.blt, p.code, fun q e => (nomatch e), fun x hx => ?_, fun x c e => ?_, fun x d e => ?_⟩, ow.inv0, ow.no, ow.pure.step q, ow.base, ow.sub, fun pr hp => ?_, ?_, ⟨.inl (ow.pure.none nC), nL nC, m, hn⟩, fun x c h0 => (nomatch h0), ⟨fun x _ _ h0 => (nomatch h0), fun x c e => ?_⟩⟩
  · show relabel scope env = relab scope F.sc
    rw [← p.scope]; rfl
  · have hl : (relab scope F.sc).names.lookup x = _ := lookup_relab
    have hx' : scope.names.lookup x = some .free := by
      have hx2 : (relab scope F.sc).names.lookup x = some .cell ∨ (relab scope F.sc).names.lookup x = some .free := hx
      rw [hl] at hx2
      cases z : scope.names.lookup x with
      | none => rw [z] at hx2; simp at hx2
      | some k =>
        rw [z, Option.map_some] at hx2
        by_cases hk : k = .free
        · rw [hk]
        · have : (k == NameKind.free) = false := by simpa using hk
          rw [this] at hx2
          simp only [Bool.false_and, Bool.false_eq_true, if_false, Option.some.injEq] at hx2
          rcases hx2 with e | e
          · exact (hcl x (by rw [z, e])).elim
          · exact (hk e).elim
    obtain ⟨c, hc⟩ := hall (x, .free) (mem_of_lookup hx') rfl
    exact ⟨c, closFrom_lookup env.cells scope.names [] x c hc (.inl (mem_of_lookup hx')) (fun _ _ e => (nomatch e)) hall⟩
  · obtain ⟨o, e'⟩ := p.cthere x c (sub x c e)
    exact ⟨o, old c o e'⟩
  · unfold compLook at e
    by_cases hsn : seen F scope x = true
    · rw [if_pos hsn] at e
      obtain ⟨v, r, i⟩ := p.view x d e
      refine ⟨v, ?_, i⟩
      unfold seen at hsn
      rw [Bool.and_eq_true] at hsn
      obtain ⟨h1, h2⟩ := hsn
      have hx' : scope.names.lookup x = some .free := by simpa using h1
      have kind : env.kindOf x = F.sc.names.lookup x := by unfold Env.kindOf; rw [p.scope]
      have hkx : (relab scope F.sc).names.lookup x = if (F.sc.kind == .function && F.sc.names.lookup x == some .cell) then some .cell else some .free := by
        show _ = _
        have := @lookup_relab scope.names F.sc x
        have e2 : (relab scope F.sc).names.lookup x = (scope.names.lookup x).map fun k => if (k == NameKind.free && F.sc.kind == .function && F.sc.names.lookup x == some .cell) then NameKind.cell else k := this
        rw [e2, hx', Option.map_some]
        simp only [beq_self_eq_true, Bool.true_and]
        split <;> rfl
      have hkf : (F.sc.kind == ScopeKind.function) = true := by rw [p.kind]; rfl
      have henv : ∀ (C : Addr), (compEnvC scope (closFrom env.cells scope.names []) C env).kindOf x = (relab scope F.sc).names.lookup x := fun C => by
        show (relabel scope env).names.lookup x = _
        rw [← p.scope]; rfl
      rcases r with ⟨hl, _⟩ | ⟨hl, c, hc, hv⟩
      · rw [kind] at hl; rw [hl] at h2; simp at h2
      · have hc' := closFrom_lookup env.cells scope.names [] x c hc (.inl (mem_of_lookup hx')) (fun _ _ e => (nomatch e)) hall
        refine .inr ⟨?_, c, hc', IsCell.keep hv q.keep⟩
        rw [henv, hkx]
        rcases hl with hl | ⟨hl, hq⟩
        · rw [kind] at hl
          rw [hl, hkf]; exact .inl rfl
        · rw [kind] at hl
          rw [hl, hkf]; exact .inr ⟨rfl, hq⟩
    · rw [if_neg hsn] at e; cases e
  · obtain ⟨a, b, c⟩ := ow.ownAt pr hp
    obtain ⟨o, ho⟩ := a.there
    exact ⟨a.keep (fun _ _ => id) q.keep, b, c, lt ho, fun x c' e => hoc pr hp x c' (sub x c' e)⟩
  · exact ow.nodup
  · obtain ⟨o, e'⟩ := p.cthere x c (sub x c e)
    exact lt e'
theorem LS.itemK {Q : Option Value → Shared → Prop} {E : Value → Shared → Prop} {x : Item} (ok : WkOk prog w hk t W items Lw) (hh : A.handled = none) (ls : LS hk H W Lw B F wc env look own L i s) (hi : items[i]? = some x)
    (k : ∀ v s₁, (∀ (Q' : Unit → Shared → Prop) (E' : Value → Shared → Prop), (∀ s₂, LS hk H W Lw B F wc env look own L (i + 1) s₂ → ItemIs hk L s₂.heap v x → (∀ b o, b ∉ W.wr → s.heap.get? b = some o → s₂.heap.get? b = some o) → Q' () s₂) → wpAny (model prog w) A (letOwnedTupleGo t (.ref W.I) v) Q' E' s₁) → Q (some v) s₁) :
    wpAny (model prog w) A (pyNext (.ref W.I)) Q E s := by
  have K := ok.turns A hh
  have hlt : i < W.n := by rw [ok.len]; exact (List.getElem?_eq_some_iff.mp hi).1
  refine K.item i s Q E hlt ls.at_ fun v h' tk hM hk' => k v _ fun Q' E' k' => ?_
  have st' := LS.keep (tk := tk) ls K (ok.nc.1 _ _ ls.at_) hk'
  refine K.go i v _ Q' E' hM fun h₂ hP hS hk₂ => k' _ ?_ (ok.item i v h₂ L x ls.sub hP hi) (fun b o hb e => hk₂ b o hb (hk' b o hb e))
  exact ⟨st'.but ls.new ls.nl (fun p hp h => ls.ao p hp (K.sub _ h)) (fun h => ls.al (K.sub _ h)) ls.ac (ok.nc.2 _ _ _ hM) hk₂, hS, ls.nl, ls.sub, ls.ao, ls.al, ls.ac, ls.aw, ls.new⟩
theorem compTurn_set (elt target iter : Expr) (scope : Scope) (pos : Pos) (it acc : Value) (env : Env) :
    compTurn (.SetComp elt [⟨target, iter, [], 0⟩] scope pos) 0 it acc env = (standAt iter.pos >>= fun _ => pyNext it >>= fun r => match r with
      | none => pure (.done .next)
      | some v => letOwnedTupleGo target it v >>= fun _ => assign target env v >>= fun _ =>
        (eval elt env >>= fun x => standAt elt.pos >>= fun _ => call (.builtin "set.add") [acc, x] >>= fun _ => pure ()) >>= fun _ =>
          again (.compLoop (.SetComp elt [⟨target, iter, [], 0⟩] scope pos) 0 it acc env)) := by rfl
theorem compLoop_set {R : Result → Shared → Prop} {elt target iter : Expr} {scope : Scope} {pos : Pos} {it acc : Value} {env : Env} (I : Nat → Shared → Prop)
    (turn : ∀ n s, I n s → wpAny (model prog w) A (pyNext it) (fun r s₁ => match r with
      | none => R (.ok .next) s₁
      | some v => wpAny (model prog w) A (letOwnedTupleGo target it v) (fun _ s₁' => wpAny (model prog w) A (assign target env v) (fun _ s₂ =>
          wpAny (model prog w) A (eval elt env) (fun x s₄ =>
              wpAny (model prog w) A (call (.builtin "set.add") [acc, x]) (fun _ s₅ => ∃ m, m < n ∧ I m s₅) (fun _ _ => False) s₄) (fun _ _ => False) s₂) (fun _ _ => False) s₁') (fun _ _ => False) s₁) (fun _ _ => False) s)
    (n : Nat) (h : I n s) :
    codeAny (model prog w) A (.compLoop (.SetComp elt [⟨target, iter, [], 0⟩] scope pos) 0 it acc env) R s := by
  refine codeAny_loop rfl I (fun n s hI => ?_) n h
  show wpAny _ A ((compTurn (.SetComp elt [⟨target, iter, [], 0⟩] scope pos) 0 it acc env).onRaise (fun x => do noteFrame x env; theTreesLotGoes x)) _ _ s
  refine wpAny_noted ?_
  rw [compTurn_set]
  refine wpAny_bind (wpAny_standAt (wpAny_bind (wpAny_mono (turn n s hI) (fun r s₁ h₁ => ?_) fun _ _ f => f.elim)))
  cases r with
  | none => exact wpAny_pure h₁
  | some v =>
    refine wpAny_bind (wpAny_mono h₁ (fun _ s₁' h₁' => ?_) fun _ _ f => f.elim)
    refine wpAny_bind (wpAny_mono h₁' (fun _ s₂ h₂ => ?_) fun _ _ f => f.elim)
    exact wpAny_bind (wpAny_bind (wpAny_mono h₂ (fun x s₄ h₄ => wpAny_bind (wpAny_standAt (wpAny_bind (wpAny_mono h₄ (fun _ s₅ h₅ => wpAny_pure (wpAny_pure ⟨rfl, h₅⟩)) fun _ _ f => f.elim)))) fun _ _ f => f.elim))
theorem codeAny_compStart_set {R : Result → Shared → Prop} {elt target iter : Expr} {ifs : List Expr} {rest : List Comprehension} {scope : Scope} {pos : Pos} {it acc : Value}
    (h0 : codeAny (model prog w) A (.compLoop (.SetComp elt (⟨target, iter, ifs, 0⟩ :: rest) scope pos) 0 it acc env) R s)
    (h : wpAny (model prog w) A (pyIter it) (fun it' s' => codeAny (model prog w) A (.compLoop (.SetComp elt (⟨target, iter, ifs, 0⟩ :: rest) scope pos) 0 it' acc env) R s')
      (notedBy (model prog w) A env fun x s' => R (.error x) s') s) :
    codeAny (model prog w) A (.compStart (.SetComp elt (⟨target, iter, ifs, 0⟩ :: rest) scope pos) 0 it acc env) R s := by
  refine codeAny_of_tree ?_
  show wpAny _ A ((compStart (.SetComp elt (⟨target, iter, ifs, 0⟩ :: rest) scope pos) 0 it acc env).onRaise (fun x => do noteFrame x env; standAt theWindowsPlace)) _ _ s
  refine wpAny_notedAt ?_
  unfold compStart
  show wpAny _ A (ask >>= _) _ _ s
  refine wpAny_bind (wpAny_askSetting (wpAny_ite ?_))
  split
  · first
      | exact wpAny_bind (wpAny_pure (wpAny_pure (And.intro rfl h0)))
      | exact wpAny_pure (And.intro rfl h0)
  · first
      | exact wpAny_bind (wpAny_rule (wpAny_bind (wpAny_standAt (wpAny_bind (wpAny_mono h (fun it' s' h' => wpAny_pure (And.intro rfl h')) fun _ _ x => x)))))
      | (refine wpAny_bind (wpAny_rule ?_); show wpAny _ _ (standAt iter.pos >>= _) _ _ s; exact wpAny_bind (wpAny_standAt (wpAny_bind (wpAny_mono h (fun it' s' h' => wpAny_pure (And.intro rfl h')) fun _ _ x => x))))
abbrev cmpS (elt t iter : Expr) (scope : Scope) (pos : Pos) (env : Env) (use : Option (Value → Sem Unit)) : Sem Value := comprehension (.SetComp elt [⟨t, iter, [], 0⟩] scope pos) scope env iter.pos (newSet (.type "set")) false (eval iter env) use
/-- the turns of a set comprehension of strings -/
theorem comp_set_loop {R : Result → Shared → Prop} {elt iter : Expr} {scope : Scope} {pos : Pos} {f : Item → Look → Look} {S : Addr} (wk : WkOk prog w hk t W items Lw) (ok : Ok n A) (hsz : items.length ≤ 1000)
    (tg : ∀ x ∈ items, TGI prog w hk H F [] t x (f x)) (hf : ∀ x ∈ items, ∀ y d, look y = some d → f x look y = some d)
    (hb : ∀ x ∈ items, ∃ y, EV prog w hk H n F (f x look) elt (.str y))
    (ls0 : LS hk H W Lw B F [] env look [] L 0 s) (hS0 : ∃ T, s.heap.SetOf (PySem.strKind prog w) S T 0) (hB : B.s₀.heap.get? S = none) (hL : ∀ o, ¬ L S o) (hl : S ≠ env.locals) (hW : S ∉ W.fp) (hC : ∀ x c, env.cells.lookup x = some c → c ≠ S) (hH : H.get? S = none)
    (hR : ∀ L' s', St hk H B F [] env look [] L' s' → (∀ o, ¬ L' S o) → R (.ok .next) s') :
    codeAny (model prog w) A (.compLoop (.SetComp elt [⟨t, iter, [], 0⟩] scope pos) 0 (.ref W.I) (.ref S) env) R s := by
  have K := wk.turns {} rfl
  have hWw : S ∉ W.wr := fun h => hW (K.sub _ h)
  refine compLoop_set (fun k s' => ∃ i L', LS hk H W Lw B F [] env look [] L' i s' ∧ (∃ T n, s'.heap.SetOf (PySem.strKind prog w) S T n ∧ n ≤ i) ∧ (∀ o, ¬ L' S o) ∧ i ≤ items.length ∧ k = items.length + 1 - i) ?_ (items.length + 1) ⟨0, L, ls0, (let ⟨T, h⟩ := hS0; ⟨T, 0, h, Nat.le_refl _⟩), hL, Nat.zero_le _, rfl⟩
  rintro k s' ⟨i, L', ls, ⟨T, nn, hS, hn⟩, hL', hi, rfl⟩
  by_cases hlt : i < items.length
  · refine ls.itemK wk ok.handled (x := items[i]) (List.getElem?_eq_getElem hlt) fun v s₃ hgo => hgo _ _ fun s₄ ls₄ iv hk₄ => ?_
    have setAt : ∀ {h h' : Heap} {T nn}, h.SetOf (PySem.strKind prog w) S T nn → (∀ o, h.get? S = some o → h'.get? S = some o) → h'.SetOf (PySem.strKind prog w) S T nn := fun hS k => by
      obtain ⟨o, es, ep, t, ho, r⟩ := hS
      exact ⟨o, es, ep, t, k o ho, r⟩
    have hS4 := setAt hS fun o e => hk₄ _ _ hWw e
    refine tg items[i] (List.getElem_mem _) A _ s₄ L' env look _ v _ _ ok.handled ls₄.st.rebase iv fun s₅ L₅ _ st₅ => ?_
    have nX : ¬ (St.there [] [] F env L' s₄).X S := fun e => by
      rcases e with e | ⟨p, hp, e⟩ | ⟨x, h, _⟩
      · exact hl e
      · cases hp
      · cases h
    have sol : ∀ o, Solid H S o := fun o => .inr (.inr hH)
    have hS5 := setAt hS4 fun o e => st₅.pure.keep _ _ e (sol o) nX
    have hL5 : ∀ o, ¬ L₅ S o := fun o e => by
      rcases st₅.base _ _ e with e | e | e
      · exact hL' o e
      · obtain ⟨o', es, ep, t, ho, _⟩ := hS4
        have e0 : s₄.heap.get? S = none := e
        rw [ho] at e0; cases e0
      · exact nX e
    obtain ⟨y, ey⟩ := hb items[i] (List.getElem_mem _)
    refine ey.use ok st₅.pre fun u s₆ q₆ i₆ p₆ => ?_
    have st6 := st₅.step q₆
    have hS6 := setAt hS5 fun o e => q₆.keep.keep _ _ e (sol o)
    have hL6 : ∀ o, ¬ (L₅.or (Fresh H s₅.heap s₆.heap)) S o := fun o e => by
      rcases e with e | e
      · exact hL5 o e
      · obtain ⟨o', es, ep, t, ho, _⟩ := hS5
        have e0 := e.1
        rw [ho] at e0; cases e0
    cases i₆ with
    | str _ tk =>
    have ls6 := ls₄.backG wk (st6.less (hf _ (List.getElem_mem _)))
    refine call_set_add (k := y) (by show Value.isStrOf y (.str y tk) = true; simp [Value.isStrOf]) rfl hS6 (Nat.lt_of_le_of_lt (Nat.succ_le_succ hn) (Nat.lt_of_le_of_lt (Nat.succ_le_of_lt (Nat.lt_of_lt_of_le hlt hsz)) (by decide))) fun h' hsb hS7 => ?_
    have nr : ∀ o x, s₆.heap.get? S = some o → ¬ RecAt o x := fun o x e ⟨vs, tt, e1, _⟩ => by
      obtain ⟨o', es, ep, t, ho, _, hd, _⟩ := hS6
      rw [ho] at e; cases e
      rw [hd] at e1; cases e1
    have st7 := ls6.st.but (tk := s₆.toks + 1) (h' := h') (wr := [S]) (fun b hb => by rw [List.mem_singleton.mp hb]; exact hB) (fun b hb => by rw [List.mem_singleton.mp hb]; exact hL6) (fun p hp => (nomatch hp)) (fun h => hl (List.mem_singleton.mp h).symm) (fun x c e h => hC x c e (List.mem_singleton.mp h))
        (fun b hb o x e => by rw [List.mem_singleton.mp hb] at e; exact nr o x e) (fun b o hb e => (hsb.2 b fun q => hb (by simp [q])).trans e)
    have ls7 : LS hk H W Lw B F [] env look [] (L₅.or (Fresh H s₅.heap s₆.heap)) (i + 1) { s₆ with heap := h', toks := s₆.toks + 1 } :=
      { ls6 with st := st7, at_ := K.frame _ _ _ ls6.at_ fun b hb o e => (hsb.2 b fun q => hW (q ▸ hb)).trans e }
    exact ⟨items.length + 1 - (i + 1), by omega, i + 1, _, ls7, ⟨_, _, hS7, by split <;> omega⟩, hL6, hlt, rfl⟩
  · have hin : i = items.length := by omega
    subst hin
    exact ls.done wk ok.handled rfl fun s₃ st₃ => hR L' s₃ st₃ hL'
end
end Mine
end

section -- N6
open PySem PySem.Calls PySem.W PyProof.Rows PySem.SeqAt PySem.MeetsSeq
set_option maxRecDepth 100000
set_option linter.unusedVariables false
namespace Mine
section
variable {prog : Program} {w : World} {H : Heap} {hk : PD → Int} {n m : Nat} {F : Fm} {wc : List Str} {look : Look} {own own' : Own} {A : Around} {B : Bs} {s s' s₁ : Shared} {L L' L₂ Lw : Led} {env : Env} {E : Value → Shared → Prop} {K : Frag} {G : Goal} {t : Expr} {items : List Item} {W : Wk} {i : Nat}
/-- a set comprehension of strings -/
theorem CP.set {elt iter : Expr} {scope : Scope} {pos : Pos} {f : Item → Look → Look}
    (hit : IT prog w hk H n F look iter t items) (hsz : items.length ≤ 1000) (hsc : ScOk F scope)
    (tg : ∀ x ∈ items, TGI prog w hk H (F.comp scope) [] t x (f x)) (hf : ∀ x ∈ items, ∀ y d, compLook F scope look y = some d → f x (compLook F scope look) y = some d)
    (hb : ∀ x ∈ items, ∃ y, EV prog w hk H n (F.comp scope) (f x (compLook F scope look)) elt (.str y))
    (hs : ∀ env x, foldedSetIterable iter env x = pure x := by intro _ _; rfl) : CP prog w hk H n F look (cmpS elt t iter scope pos) .any := fun A s L env use Q E ok p hQ => by
  have hclos : closureFor scope env = pure (closFrom env.cells scope.names []) := closureFor_eq fun y hy e => p.has y.1 (hsc.free y hy e)
  refine wpAny_comprehension_free (g := ⟨t, iter, [], 0⟩) (gs := []) rfl (hs env) hclos hsc.kind hsc.names (wpAny_mono (hit A s L env ok p) (fun x s₁ h₁ => wpAny_mono h₁ (fun it s₂ h₂ => ?_) fun _ _ f => f.elim) fun _ _ f => f.elim)
  obtain ⟨W, L₂, rfl, wk, q, sub, ho, hb₂, hS, hwr⟩ := h₂
  have K := wk.turns A ok.handled
  refine wpAny_newSet_of (knd := PySem.strKind prog w) fun led hS0 => wpAny_newFunctionEnv hsc.cell (by intro y hy; simp at hy) (fun h₁ hns₁ hsb₁ => ?_) hsc.kind
  generalize hob : ({ cls := .type "set", dict := .none, data := .set #[] 0 (.fresh 0 0 led) } : Obj) = ob at hS0 hns₁ hsb₁ ⊢
  have q₃ : Pure H s₂ { s₂ with heap := s₂.heap.push ob } := .push q.inv _
  have qq := q.trans q₃
  have ho₃ := ho.keep q₃.keep
  have p₃ : Pre hk H F env look L₂ { s₂ with heap := s₂.heap.push ob } := { p.pure qq with led := ho₃, view := fun x d e => let ⟨v, r, i⟩ := p.view x d e; ⟨v, r.keep qq.keep, i.mono sub⟩ }
  have ow₃ : Ow hk H ⟨s, L, fun _ => False⟩ [] L₂ { s₂ with heap := s₂.heap.push ob } := .pure0 p.inv qq sub ho₃ hb₂
  have cell0 : ∀ y, scope.names.lookup y ≠ some .cell := fun y e => hsc.cell _ (mem_of_lookup e) rfl
  have st := compFrame0 (tk := s₂.toks + ([] : List (Str × Value)).length) (scope := scope) (h' := h₁) p₃ ow₃ cell0 hsc.kind hsc.free (fun p hp => (nomatch hp)) hns₁ hsb₁
  have size1 : (s₂.heap.push ob).objs.size = s₂.heap.objs.size + 1 := Heap.size_push ..
  have hlt : ∀ b ∈ W.fp, b < s₂.heap.objs.size := fun b hb => let ⟨o, e⟩ := wk.here _ _ hS b hb; Heap.lt_size e
  have nS : s₂.heap.objs.size ∉ W.fp := fun h => Nat.lt_irrefl _ (hlt _ h)
  have nC : (s₂.heap.push ob).objs.size ∉ W.fp := fun h => by have := hlt _ h; rw [size1] at this; exact Nat.lt_irrefl _ (Nat.lt_of_succ_lt this)
  have old1 : ∀ b o, (s₂.heap.push ob).get? b = some o → h₁.get? b = some o := fun b o e =>
    (hsb₁.2 b (Nat.ne_of_lt (Heap.lt_size e))).trans (Heap.get?_push_of_some _ e)
  have old : ∀ b o, s₂.heap.get? b = some o → h₁.get? b = some o := fun b o e => old1 b o (Heap.get?_push_of_some _ e)
  have hS₁ : W.S 0 h₁ := K.frame _ _ _ hS fun b _ o e => old b o e
  have sub' := closFrom_sub env.cells scope.names [] (fun _ _ e => (nomatch e)) fun z hz e => p.has z.1 (hsc.free z hz e)
  have nS2 : s₂.heap.get? s₂.heap.objs.size = none := get_size _
  have nS0 : s.heap.get? s₂.heap.objs.size = none := q.keep.none nS2
  have ls0 : LS hk H W L₂ ⟨s, L, fun _ => False⟩ (F.comp scope) [] (compEnvC scope (closFrom env.cells scope.names []) (s₂.heap.push ob).objs.size env) (compLook F scope look) [] L₂ 0
      { s₂ with heap := h₁, toks := s₂.toks + ([] : List (Str × Value)).length } := ⟨st, hS₁, wk.apart, fun _ _ => id, fun pr hp => (nomatch hp), nC, fun x c e hm => (by
        obtain ⟨o, e'⟩ := p.cthere x c (sub' x c e)
        rw [hwr c hm] at e'; cases e'), fun x c h0 => (nomatch h0), fun b hb => hwr b hb⟩
  have nCs : s.heap.get? (s₂.heap.push ob).objs.size = none := q.keep.none (by
    cases z : s₂.heap.get? (s₂.heap.push ob).objs.size with
    | none => rfl
    | some o => exact absurd (Heap.lt_size z) (by rw [size1]; exact Nat.not_lt.mpr (Nat.le_succ _)))
  have done : codeAny (model prog w) A (.compLoop (.SetComp elt [⟨t, iter, [], 0⟩] scope pos) 0 (.ref W.I) (.ref s₂.heap.objs.size) (compEnvC scope (closFrom env.cells scope.names []) (s₂.heap.push ob).objs.size env))
      (compPost (model prog w) A E use Q (.ref s₂.heap.objs.size) (s₂.heap.push ob).objs.size) { s₂ with heap := h₁, toks := s₂.toks + ([] : List (Str × Value)).length } := by
    refine comp_set_loop wk ok hsz tg hf hb ls0 ⟨fun _ => false, ?_⟩ nS0 (fun o e => ?_) ?_ nS (fun x c e => ?_) (q.inv.none nS2) fun L' s' st' hl => ?_
    · obtain ⟨o, es, ep, t, h1, h2⟩ := hS0
      exact ⟨o, es, ep, t, old1 _ _ h1, h2⟩
    · have e1 := (ho _ _ e).1
      rw [nS2] at e1; cases e1
    · show s₂.heap.objs.size ≠ (s₂.heap.push ob).objs.size
      rw [size1]; exact Nat.ne_of_lt (Nat.lt_succ_self _)
    · obtain ⟨o, e'⟩ := p.cthere x c (sub' x c e)
      intro z
      rw [z, nS0] at e'; cases e'
    · obtain ⟨m, hm⟩ := st'.loc.2.2
      exact hQ L' s' _ _ nCs st'.ow (.any _) ⟨m, hm⟩ st'.loc.2.1
  exact codeAny_compStart_set done (wk.self A 0 _ _ _ ok.handled hS₁ done)
theorem EV.setComp {elt iter : Expr} {scope : Scope} {pos : Pos} (h : CP prog w hk H n F look (cmpS elt t iter scope pos) .any) (he : ∀ env, eval (.SetComp elt [⟨t, iter, [], 0⟩] scope pos) env = cmpS elt t iter scope pos env Option.none := by intro _; rfl) : EV prog w hk H n F look (.SetComp elt [⟨t, iter, [], 0⟩] scope pos) .any := fun A s L env ok p => by
  rw [he]
  refine h A s L env Option.none _ _ ok p fun L' s' D C hC ow i ⟨m, hn⟩ hl => ⟨m, hn, fun h' hs' => ⟨?_, ow.frozen i hl hs'⟩⟩
  exact (ow.pure.pure fun _ e => e.elim).tail p.inv hC ⟨m, hn⟩ hs'
end
end Mine
end

section -- N7
open PySem PySem.Calls PySem.W PyProof.Rows PySem.SeqAt PySem.MeetsSeq
set_option maxRecDepth 100000
set_option linter.unusedVariables false
namespace Mine
section
variable {prog : Program} {w : World} {H : Heap} {hk : PD → Int} {n m : Nat} {F : Fm} {wc : List Str} {look : Look} {own own' : Own} {A : Around} {B : Bs} {s s' s₁ : Shared} {L L' L₂ Lw : Led} {env : Env} {E : Value → Shared → Prop} {K : Frag} {G : Goal} {t : Expr} {items : List Item} {W : Wk} {i : Nat}
/-- a def of K's that hands out new own objects: its code -/
theorem FCO.defK {a : Addr} {ps : List PD} {ks : List (Str × PD)} {names : List Str} {ds : List PD} {K' : PD → Own → Prop} (wc : List Str) (X : Env0 K H) (hok : defOk K a = true) (hb : BINDS prog w hk H (fdOf K a) ps ks names ds)
    (hn : names.Nodup) (hkind : (names.all fun x => (fdOf K a).scope.names.lookup x == some .local || (fdOf K a).scope.names.lookup x == some .cell) = true)
    (h : EX prog w hk H n ⟨(fdOf K a).scope, some (codeOf (fdOf K a)), .none⟩ wc (fun x => (names.zip ds).lookup x) [] (bodyOf (fdOf K a)) ⟨fun _ _ => False, fun _ _ => False, K'⟩) {vs : List Value} {kvs : List (Str × Value)} (ok : Ok (n + 1) A) (inv : Inv H s.heap) (led : Holds H L s.heap)
    (i1 : IsAll hk L vs ps) (i2 : IsAll hk L (kvs.map (·.2)) (ks.map (·.2))) (i3 : kvs.map (·.1) = ks.map (·.1)) :
    codeAny (model prog w) A (.call (.ref a) ⟨vs, kvs⟩) (fun r s' => match r with | .ok (.ret v) => PostN hk H L s K' v s' | .ok _ => False | .error _ => False) s := by
  have D := DefAt.ofK X.at_ hok
  obtain ⟨o, ho, hc, hd⟩ := D.obj
  obtain ⟨oc, vc, tc, e1, e2, e3, e4, e5⟩ := D.code
  have hkind' : ∀ x ∈ names, (fdOf K a).scope.names.lookup x = some .local ∨ (fdOf K a).scope.names.lookup x = some .cell := fun x hx => by have := List.all_eq_true.mp hkind x hx; simpa using this
  refine codeAny_call_function ok.room (inv.get ho hc) hd D.co D.gen D.body ⟨_, oc, vc, tc, e1, inv.get e2 e3, e4, e5⟩ ?_
  refine wpAny_mono (hb A.in1 s L vs kvs inv led i1 i2 i3) (fun b s₁ hb₁ => ?_) fun _ _ f => f.elim
  obtain ⟨q, hbn, hbi⟩ := hb₁
  rw [D.clo]
  refine wpAny_newFunctionEnv_cells D.kind (fun x hx => ?_) fun env he s' ic => ⟨?_, codeAny_func ?_⟩
  · have hxn : x.1 ∈ names := hbn ▸ List.mem_map.mpr ⟨x, hx, rfl⟩
    refine (hkind' _ hxn).imp id fun e => ⟨e, cellsFrom_has _ _ _ _ (.inl (mem_of_lookup e))⟩
  · obtain ⟨h', tk, rfl, hkp⟩ := ic.done
    exact q.inv.lim.keeps hkp
  · have st := FN.begin (q := Option.none) (wc := wc) D.kind D.free D.glob D.blt e1 q.inv ((led.keep q.keep).or .fresh) hbn hbi hn hkind' (by subst he; exact ⟨⟨rfl, rfl, rfl, rfl, rfl⟩, rfl⟩) ic (fun z e => nomatch e)
    refine wpAny_mono (h (A.deeper env) _ _ _ env (ok.deeper env) st) (fun f s₂ e => ?_) fun _ _ f => f.elim
    cases f with
    | next => obtain ⟨_, _, _, e, _⟩ := e; exact e.elim
    | cont => obtain ⟨_, _, _, e, _⟩ := e; exact e.elim
    | brk => exact e.elim
    | ret v =>
      obtain ⟨l, o, L', d, hK, st3, i⟩ := e
      refine ⟨d, o, L', hK, q.trans (st3.pure.pure fun _ e => e.elim), i, fun a ob e => st3.sub _ _ (.inl e), st3.pre.led, fun a ob e => ?_, fun p hp => ?_, st3.nodup⟩
      · rcases st3.base a ob e with (e | e) | e | e
        · exact .inl e
        · exact .inr e.1
        · exact .inr (q.keep.none e)
        · exact e.elim
      · obtain ⟨a, b, c, _⟩ := st3.ownAt p hp
        exact ⟨a, b.elim (fun e => q.keep.none e) False.elim, c⟩
theorem FNO.defK {a : Addr} {ps : List PD} {ks : List (Str × PD)} {names : List Str} {ds : List PD} {K' : PD → Own → Prop} (wc : List Str) (X : Env0 K H) (hok : defOk K a = true) (hb : BINDS prog w hk H (fdOf K a) ps ks names ds)
    (hn : names.Nodup) (hkind : (names.all fun x => (fdOf K a).scope.names.lookup x == some .local || (fdOf K a).scope.names.lookup x == some .cell) = true)
    (h : EX prog w hk H n ⟨(fdOf K a).scope, some (codeOf (fdOf K a)), .none⟩ wc (fun x => (names.zip ds).lookup x) [] (bodyOf (fdOf K a)) ⟨fun _ _ => False, fun _ _ => False, K'⟩) : FNO prog w hk H (n + 1) (.val (.ref a)) ps ks K' := fun A s L fv vs kvs ok inv led iv i1 i2 i3 => by
  cases iv
  refine wpAny_call (codeAny_mono (FCO.defK wc X hok hb hn hkind h ok inv led i1 i2 i3) fun r s' e => ?_)
  exact e
theorem EX.retN {e : Expr} {pos : Pos} {rest : List Stmt} {K' : PD → Own → Prop} (h : EVN prog w hk H n F look e K') (k : ∀ d o, K' d o → G.R d (o ++ own)) : EX prog w hk H n F wc look own (.Return (some e) pos :: rest) G := fun A B s L env ok st =>
  wpAny_execs_cons (wpAny_Return_some (wpAny_mono (h A s L env ok st.pre) (fun v s' e => by
    obtain ⟨d, o, L', hK, q, i, sub, ho, hb, hO, nd⟩ := e
    exact ⟨_, _, _, _, k d o hK, st.addOwns q sub ho hb hO nd, i⟩) fun _ _ f => f.elim))
/-- a class method is called -/
theorem EVN.clsMeth {o : Expr} {name : Str} {apos pos : Pos} {args : List Expr} {ps : List PD} {pl : Env → Sem Bool} {C p f : Addr} {mc : Value} {rest : List Value} {names : List Str} {ds : List PD} {K' : PD → Own → Prop} (wc : List Str) (X : Env0 K H) (h : EV prog w hk H (n + 1) F look o (.val (.ref C))) (ha : ES prog w hk H (n + 1) F look args ps)
    (hg : specialIn K (.ref C) "__getattribute__" = some (some (.builtin "type.__getattribute__"))) (hr : readsIn K C mc = true) (e : findCls K (.ref C) mc name = some (.get (.builtin "classmethod.__get__") (.ref p) .none (.ref C))) (hp : recIn K p "classmethod" = some (.ref f :: rest)) (hf : fnIn K f = true)
    (hok : defOk K f = true) (hb : BINDS prog w hk H (fdOf K f) (.val (.ref C) :: ps) [] names ds)
    (hn : names.Nodup) (hkind : (names.all fun x => (fdOf K f).scope.names.lookup x == some .local || (fdOf K f).scope.names.lookup x == some .cell) = true)
    (hx : EX prog w hk H n ⟨(fdOf K f).scope, some (codeOf (fdOf K f)), .none⟩ wc (fun x => (names.zip ds).lookup x) [] (bodyOf (fdOf K f)) ⟨fun _ _ => False, fun _ _ => False, K'⟩)
    (hpp : ∀ pos env, (backTo pos (starEach args env)).any (·.1) = false := by intro _ _; rfl)
    (he : ∀ env, eval (.Call (.Attribute o name apos) args [] pos) env = (do
      let ov ← eval o env
      standAt apos.atName
      let (f, first) ← holding [ov] (getMethod ov name (pl env))
      callWith pos f first (backTo pos (starEach args env)) (backToKw pos (keywordEach [] env))) := by intro _; rfl) : EVN prog w hk H (n + 1) F look (.Call (.Attribute o name apos) args [] pos) K' := fun A s L env ok p => by
  refine call_method (pl := pl env) (h.use ok p fun ov s₁ q₁ i₁ p₁ => ?_) (he env)
  cases i₁
  refine method_cls (X.in p₁.inv) hg (cls_bind (X.in p₁.inv) hr e (wpAny_call (cm_get (X.in (Pure.toks p₁.inv (s₁.toks + 1)).inv) hp (handed_on rfl ?_))))
  have q₂ : Pure H s₁ { s₁ with heap := s₁.heap.push (methodObj (.ref f) (.ref C)), toks := s₁.toks + 1 } := .all p₁.inv fun b o e => Heap.get?_push_of_some _ e
  have p₂ := p₁.pure q₂
  have hq : (s₁.heap.push (methodObj (.ref f) (.ref C))).get? s₁.heap.objs.size = some (methodObj (.ref f) (.ref C)) := Heap.get?_push_size _ rfl
  refine callWith_any (evalArgs_any (hpp pos env) rfl (ha.use ok p₂ fun vs s₃ q₃ i₃ p₃ => ?_))
  refine wpAny_mono (EK.nil.2 A s₃ _ env pos ok p₃) (fun kvs s₄ h₄ => ?_) fun _ _ f => f
  obtain ⟨q₄, i₄⟩ := h₄
  obtain rfl := i₄.none0
  have p₄ := p₃.pure q₄
  have hq4 := q₄.keep.keep _ _ (q₃.keep.keep _ _ hq (.inl (by simp))) (.inl (by simp))
  obtain ⟨k, _, hk⟩ := keeps_M (M := model prog w) hf s₄.heap ⟨hq4, X.in p₄.inv⟩
  refine hk.here ?_
  refine wpAny_call (method_call hq4 (codeAny_mono (FCO.defK (L := _) wc X hok hb hn hkind hx ok p₄.inv p₄.led (.cons (.val _) (i₃.mono fun _ _ => .inl)) .nil rfl) fun r s' e => ?_))
  match r, e with
  | .ok (.ret v), e => exact PostN.step q₁ (PostN.step q₂ (PostN.step q₃ (PostN.step q₄ e)))
end
end Mine
end

section -- N8
open PySem PySem.Calls PySem.W PyProof.Rows PySem.SeqAt PySem.MeetsSeq
set_option maxRecDepth 100000
set_option linter.unusedVariables false
namespace Mine
section
variable {w : World} {H : Heap} {hk : PD → Int} {n m : Nat} {F : Fm} {wc : List Str} {look : Look} {own own' : Own} {A : Around} {B : Bs} {s s' s₁ : Shared} {L L' L₂ Lw : Led} {env : Env} {E : Value → Shared → Prop} {K : Frag} {G : Goal} {t : Expr} {items : List Item} {W : Wk} {i : Nat}
/-- a list cut by a slice -/
theorem slice_core {value slice : Expr} {l : Addr} {o : Obj} {vs : Array Value} {nn : Nat} {vl vu : Value} {lo hi : Option Int} {ys : List PD} (led : Holds H L s.heap) (inv : Inv H s.heap) (h1 : L l o) (h2 : o.cls = .type "list") (h3 : o.data = .seq vs nn) (pl : IsPart vl lo) (pu : IsPart vu hi)
    (hy : IsAll hk L (slicePick vs lo hi Option.none).toList ys) (hsz : vs.size ≤ sizeLine) (hs : ∀ o v, subscripted slice false o v = operate [v, o] (getItem o v)) :
    wpAny (model prg w) A (subscriptTail value slice (.ref l) (.ref s.heap.objs.size)) (Post hk H L s (.list ys)) (fun _ _ => False) { s with heap := s.heap.push { cls := .type "slice", data := .fields #[vl, vu, .none] } } := by
  have hl : s.heap.IsList l vs := ⟨o, (led _ _ h1).1, h2, nn, h3⟩
  refine kba_turn (value' := PySem.Expr.Name (PySem.Str.ofString "_") ⟨0, 0, 0, 0⟩) (fun _ => rfl) ?_
  refine subscriptTail_ops (Heap.IsList.typeIs (s := { s with heap := s.heap.push { cls := .type "slice", data := .fields #[vl, vu, .none] } }) (hl.push _)) list_getitem_lookup
    (wpAny_getItem_list_slice (hl.push _) (Heap.IsSliceOf.new ..) pl pu .none (by simp) ?_ hsz) (hs _ _) (fun _ => rfl)
  have q1 : Pure H s { s with heap := s.heap.push { cls := .type "slice", data := .fields #[vl, vu, .none] } } := .push inv _
  have q2 := q1.trans (Pure.push (s := { s with heap := s.heap.push { cls := .type "slice", data := .fields #[vl, vu, .none] } }) q1.inv { cls := .type "list", data := .seq (slicePick vs lo hi Option.none) })
  refine ⟨q2, .list (.inr ⟨?_, Heap.get?_push_size _ rfl, .inl (by simp), ?_⟩) rfl rfl (hy.mono fun _ _ => .inl)⟩
  · exact Heap.get?_none_of_le (by show s.heap.objs.size ≤ (s.heap.push _).objs.size; rw [Heap.size_push]; exact Nat.le_succ _)
  · exact q1.inv.new (q1.inv.none (get_size _))
theorem IsAll.drop {vs : List Value} {xs : List PD} (h : IsAll hk L vs xs) : ∀ k, IsAll hk L (vs.drop k) (xs.drop k) := by
  induction xs generalizing vs with
  | nil => cases h; intro k; simp; exact .nil
  | cons x xs ih => cases h with | cons h1 h2 => intro k; cases k with
    | zero => exact .cons h1 h2
    | succ k => exact ih h2 k
theorem IsAll.take {vs : List Value} {xs : List PD} (h : IsAll hk L vs xs) : ∀ k, IsAll hk L (vs.take k) (xs.take k) := by
  induction xs generalizing vs with
  | nil => cases h; intro k; simp; exact .nil
  | cons x xs ih => cases h with | cons h1 h2 => intro k; cases k with
    | zero => exact .nil
    | succ k => exact .cons h1 (ih h2 k)
theorem EV.sliceFrom {value e : Expr} {pos p : Pos} {xs : List PD} {k : Nat} (h : EV prg w hk H n F look value (.list xs)) (he : EV prg w hk H n F look e (.int (k : Int))) (hz : xs.length ≤ sizeLine)
    (hs : ∀ o v, subscripted (.Slice (some e) Option.none Option.none p) false o v = operate [v, o] (getItem o v) := by intro _ _; rfl)
    (ho : ∀ env, valueOrNone (evalOpt (some e) env) = eval e env := by intro _; rfl) : EV prg w hk H n F look (.Subscript value (.Slice (some e) Option.none Option.none p) pos) (.list (xs.drop k)) := fun A s L env ok p => by
  refine Subscript_ (h.use ok p fun o s₁ q₁ i₁ p₁ => ?_)
  rw [arm_eval_Slice]
  refine wpAny_bind ?_
  rw [ho]
  refine he.use ok p₁ fun v s₂ q₂ i₂ p₂ => ?_
  refine wpAny_bind (wpAny_holding (wpAny_pure (wpAny_bind (wpAny_holding (wpAny_pure ?_)))))
  refine wpAny_newObj_type ?_
  cases i₂
  cases i₁ with
  | @list l o vs nn _ h1 h2 h3 h4 =>
  refine wpAny_mono (slice_core (L := (L.or (Fresh H s.heap s₁.heap)).or (Fresh H s₁.heap s₂.heap)) p₂.led p₂.inv (.inl h1) h2 h3 (lo := some k) (hi := Option.none) (.int _ _) .none (ys := xs.drop k) ?_ (by rw [h4.arr]; exact hz) hs) (fun _ _ e => Post.step q₁ (Post.step q₂ e)) fun _ _ f => f
  rw [slicePick_from', List.toList_toArray]
  exact (h4.drop k).mono fun _ _ => .inl
theorem EV.sliceUpto {value e : Expr} {pos p : Pos} {xs : List PD} {k : Nat} (h : EV prg w hk H n F look value (.list xs)) (he : EV prg w hk H n F look e (.int (k : Int))) (hz : xs.length ≤ sizeLine)
    (hs : ∀ o v, subscripted (.Slice Option.none (some e) Option.none p) false o v = operate [v, o] (getItem o v) := by intro _ _; rfl)
    (ho : ∀ env, valueOrNone (evalOpt (some e) env) = eval e env := by intro _; rfl) : EV prg w hk H n F look (.Subscript value (.Slice Option.none (some e) Option.none p) pos) (.list (xs.take k)) := fun A s L env ok p => by
  refine Subscript_ (h.use ok p fun o s₁ q₁ i₁ p₁ => ?_)
  rw [arm_eval_Slice]
  refine wpAny_bind (wpAny_pure (wpAny_bind (wpAny_holding ?_)))
  rw [ho]
  refine he.use ok p₁ fun v s₂ q₂ i₂ p₂ => ?_
  refine wpAny_bind (wpAny_holding (wpAny_pure ?_))
  refine wpAny_newObj_type ?_
  cases i₂
  cases i₁ with
  | @list l o vs nn _ h1 h2 h3 h4 =>
  refine wpAny_mono (slice_core (L := (L.or (Fresh H s.heap s₁.heap)).or (Fresh H s₁.heap s₂.heap)) p₂.led p₂.inv (.inl h1) h2 h3 (lo := Option.none) (hi := some k) .none (.int _ _) (ys := xs.take k) ?_ (by rw [h4.arr]; exact hz) hs) (fun _ _ e => Post.step q₁ (Post.step q₂ e)) fun _ _ f => f
  rw [slicePick_upto', List.toList_toArray]
  exact (h4.take k).mono fun _ _ => .inl
end
end Mine
end

section -- M1
open PySem PySem.Calls PySem.W PyProof.Rows PySem.SeqAt PySem.MeetsSeq
set_option maxRecDepth 100000
set_option linter.unusedVariables false
namespace Mine
theorem zip_fst_snd : ∀ l : List (Str × Value), (l.map (·.1)).zip (l.map (·.2)) = l
  | [] => rfl
  | p :: r => by rw [List.map_cons, List.map_cons, List.zip_cons_cons, zip_fst_snd r]
section
variable {prog : Program} {w : World} {H : Heap} {hk : PD → Int} {n m : Nat} {K : Frag}
/-- defaults read from the top -/
theorem BINDS.peek {fd : FuncData} {ps : List PD} {ks : List (Str × PD)} {names : List Str} {ds : List PD} {R : List Value → List Value → List Value} (X : KOk K H)
    (h1 : ∀ vs us : List Value, vs.length = ps.length → us.length = ks.length → PySem.W.peek K ⟨prog, w.params⟩ (bindArgs fd ⟨vs, (ks.map (·.1)).zip us⟩) = some (names.zip (R vs us)))
    (hR : ∀ L vs us, IsAll hk L vs ps → IsAll hk L us (ks.map (·.2)) → IsAll hk L (R vs us) ds) (hl : names.length = ds.length) : BINDS prog w hk H fd ps ks names ds := fun A s L vs kvs inv led i1 i2 i3 => by
  have e1 := i1.length
  have e2 := i2.length
  rw [List.length_map, List.length_map] at e2
  have e3 : kvs = (ks.map (·.1)).zip (kvs.map (·.2)) := by rw [← i3, zip_fst_snd]
  have e4 := h1 vs (kvs.map (·.2)) e1 (by rw [List.length_map]; exact e2)
  rw [← e3] at e4
  have iR := hR L vs _ i1 i2
  have lR := iR.length
  refine (Looks.of_peek (M := model prog w) (X.in inv) e4).here ⟨.refl inv, ?_, ?_⟩
  · rw [List.map_fst_zip]
    rw [lR, hl]; exact Nat.le_refl _
  · rw [List.map_snd_zip (by rw [lR, hl]; exact Nat.le_refl _)]
    exact iR.mono fun _ _ => .inl
end
/-- the table that the defs in a def need -/
structure Env2 (w : World) (H : Heap) : Prop extends Env1 w H where
  t243 : ∃ ps, H.IsCode (codeOf (fdOf (KK w) 243)) 238 ps ∧ H.TableAt (codeOf (fdOf (KK w) 243)) 238 ps
  t517 : ∃ ps, H.IsCode (codeOf (fdOf (KK w) 517)) 512 ps ∧ H.TableAt (codeOf (fdOf (KK w) 517)) 512 ps
/-- the model of a def made by a def statement -/
def fpOf : Stmt → FuncData
  | .FunctionDef name params body _ _ _ scope _ _ _ => { (default : FuncData) with name := name, params := params, body := .stmts body, scope := scope, defaults := .none, kwdefaults := .none }
  | _ => default
section
variable {w : World} {H : Heap} {n : Nat} {k : Addr} {u v : PD} {F : Fm} {look : Look} {hk : PD → Int}
noncomputable def decFp (w : World) : FuncData := fpOf ((bodyOf (fdOf (KK w) 243)).getD 1 (.Pass ⟨0, 0, 0, 0⟩))
theorem noCell_of {names : List (Str × NameKind)} (h : (names.all fun x => !(x.2 == .cell)) = true) : ∀ x ∈ names, x.2 ≠ .cell := fun x hx e => by
  have := List.all_eq_true.mp h x hx
  rw [e] at this; cases this
theorem noFree_of {names : List (Str × NameKind)} (h : (names.all fun x => !(x.2 == .free)) = true) {P : Str → Prop} : ∀ x, names.lookup x = some .free → P x := fun x hx => by
  have := List.all_eq_true.mp h _ (mem_of_lookup hx)
  cases this
theorem local1 {names : List (Str × NameKind)} {xs : List Str} (h : (xs.all fun x => names.lookup x == some .local) = true) : ∀ x ∈ xs, names.lookup x = some .local := fun x hx => beq_iff_eq.mp (List.all_eq_true.mp h x hx)
theorem dec_bool (X : Env0 (KK w) H) {b : Bool} : FN prg w (hkW w) H (n + 1) (.clo (decFp w) Option.none) [.val (.bool b)] [] (.tup [.val (.bool b), .val .none]) := by
  refine FN.clo (names := ["value"]) (ds := []) (body := (match (decFp w).body with | .stmts b => b | _ => [])) rfl rfl rfl rfl (noCell_of (by rfl)) (noFree_of (by rfl)) (fun z x h => nomatch h) (fun fd vs h1 h2 h3 hl => ?_) rfl (by decide) (local1 (by rfl)) ?_
  · match vs, hl with
    | [a], _ =>
      obtain ⟨f1, f2, f3, f4, f5, f6, f7, f8, f9⟩ := fd
      dsimp only at h1 h2 h3
      subst h1 h2 h3
      kernel_rfl
  · refine EX.ifF (ET.val (d := .val (.bool false)) (EV.callF (EV.bk X) (.cons (EV.name rfl) .nil) .nil KP.blt FN.callBool) (.bool _)) ?_
    refine EX.assign EV.none (EX.nil ?_)
    exact EX.ret (EV.tup (.cons (EV.name rfl) (.cons (EV.name rfl) .nil)) (sz rfl)) rfl
/-- what _determine_attrib_eq_order answers -/
def eqOrdR : PD := .tup [.val (.bool true), .val .none, .val (.bool true), .val .none]
theorem eqOrd_D (X : Env2 w H) : DefOk (KK w) H ⟨(fdOf (KK w) 243).scope, some (codeOf (fdOf (KK w) 243)), some ((fdOf (KK w) 243).qualname ++ ".<locals>.")⟩ "decide_callable_or_boolean" (decFp w).params (match (decFp w).body with | .stmts b => b | _ => []) (decFp w).scope ((bodyOf (fdOf (KK w) 243)).getD 1 (.Pass ⟨0, 0, 0, 0⟩)).pos (decFp w) (codeOf (fdOf (KK w) 243)) 238 (fun _ => Str.ofString "_determine_attrib_eq_order.<locals>.decide_callable_or_boolean") where
  code := rfl
  tab := X.t243
  np := by decide
  sp := .head _
  qn := ⟨_, rfl, fun env h1 h2 => by
    obtain ⟨sc, a1, a2, a3, a4, a5, a6, a7, a8⟩ := env
    dsimp only at h1 h2
    subst h1 h2
    kernel_rfl⟩
  fp := ⟨rfl, rfl, rfl, rfl, rfl⟩
  d0 := rfl
  k0 := rfl
  an := fun env => rfl
abbrev eqOrdN : List Str := ["cmp", "eq", "order", "default_eq"]
theorem eqOrd_none (X : Env2 w H) : FN prg w (hkW w) H (n + 2) (.val (.ref 243)) [.val .none, .val .none, .val .none, .val (.bool true)] [] eqOrdR := by
  refine FN.defD (pre := (bodyOf (fdOf (KK w) 243)).take 1) (l := fun x => (eqOrdN.zip [.val .none, .val .none, .val .none, .val (.bool true)]).lookup x) (names := eqOrdN) X.toEnv0 (by rfl) (BINDS.pos (fun vs h => ?_)) (by decide) (by rfl) (by rfl) ?_ (eqOrd_D X) (by rfl) (by rfl) (NoRec.tup fun d hd => ?_) ?_
  · match vs, h with
    | [a, b, c, d], _ => kernel_rfl
  · exact EX.ifF (ET.bool (EB.andF (ET.cmp (EV.name rfl) EV.none (CMP.notNone' rfl)))) (EX.nil (EX.nil ⟨rfl, rfl⟩))
  · simp only [List.mem_cons, List.not_mem_nil, or_false] at hd
    rcases hd with rfl | rfl | rfl | rfl <;> exact NoRec.val _
  · refine EX.ifF (ET.cmp (EV.name rfl) EV.none (CMP.notNone' rfl)) (EX.nil ?_)
    refine EX.ifT (ET.cmp (EV.name rfl) EV.none (CMP.none' rfl)) ?_
    refine EX.unpackS (xs := [("eq", _), ("eq_key", _)]) (ds := [.val (.bool true), .val .none]) (EV.tup (.cons (EV.name rfl) (.cons EV.none .nil)) (sz rfl)) (EX.nil ?_) ?_
    · refine EX.ifT (ET.cmp (EV.name rfl) EV.none (CMP.none' rfl)) ?_
      refine EX.unpackS (xs := [("order", _), ("order_key", _)]) (ds := [.val (.bool true), .val .none]) (EV.tup (.cons (EV.name rfl) (.cons (EV.name rfl) .nil)) (sz rfl)) (EX.nil ?_) ?_
      · refine EX.ifF (ET.bool (EB.andF (ET.cmp (EV.name rfl) EV.bool CMP.is))) (EX.nil ?_)
        exact EX.ret (EV.tup (.cons (EV.name rfl) (.cons (EV.name rfl) (.cons (EV.name rfl) (.cons (EV.name rfl) .nil)))) (sz rfl)) rfl
      · intro x hx; exact .inl (local1 (xs := ["order_key", "order"]) (by rfl) x hx)
    · intro x hx; exact .inl (local1 (xs := ["eq_key", "eq"]) (by rfl) x hx)
theorem eqOrd_true (X : Env2 w H) : FN prg w (hkW w) H (n + 2) (.val (.ref 243)) [.val .none, .val (.bool true), .val (.bool true), .val (.bool true)] [] eqOrdR := by
  refine FN.defD (pre := (bodyOf (fdOf (KK w) 243)).take 1) (l := fun x => (eqOrdN.zip [.val .none, .val (.bool true), .val (.bool true), .val (.bool true)]).lookup x) (names := eqOrdN) X.toEnv0 (by rfl) (BINDS.pos (fun vs h => ?_)) (by decide) (by rfl) (by rfl) ?_ (eqOrd_D X) (by rfl) (by rfl) (NoRec.tup fun d hd => ?_) ?_
  · match vs, h with
    | [a, b, c, d], _ => kernel_rfl
  · exact EX.ifF (ET.bool (EB.andF (ET.cmp (EV.name rfl) EV.none (CMP.notNone' rfl)))) (EX.nil (EX.nil ⟨rfl, rfl⟩))
  · simp only [List.mem_cons, List.not_mem_nil, or_false] at hd
    rcases hd with rfl | rfl | rfl | rfl <;> exact NoRec.val _
  · refine EX.ifF (ET.cmp (EV.name rfl) EV.none (CMP.notNone' rfl)) (EX.nil ?_)
    refine EX.ifF (ET.cmp (EV.name rfl) EV.none (CMP.none' rfl)) ?_
    refine EX.unpack (xs := [("eq", _), ("eq_key", _)]) (ds := [.val (.bool true), .val .none]) (EV.callF (EV.name rfl) (.cons (EV.name rfl) .nil) .nil KP.clo (dec_bool X.toEnv0)) (EX.nil ?_) ?_
    · refine EX.ifF (ET.cmp (EV.name rfl) EV.none (CMP.none' rfl)) ?_
      refine EX.unpack (xs := [("order", _), ("order_key", _)]) (ds := [.val (.bool true), .val .none]) (EV.callF (EV.name rfl) (.cons (EV.name rfl) .nil) .nil KP.clo (dec_bool X.toEnv0)) (EX.nil ?_) ?_
      · refine EX.ifF (ET.bool (EB.andF (ET.cmp (EV.name rfl) EV.bool CMP.is))) (EX.nil ?_)
        exact EX.ret (EV.tup (.cons (EV.name rfl) (.cons (EV.name rfl) (.cons (EV.name rfl) (.cons (EV.name rfl) .nil)))) (sz rfl)) rfl
      · intro x hx; refine .inl ?_
        simp only [List.mem_cons, List.not_mem_nil, or_false] at hx
        rcases hx with rfl | rfl <;> rfl
    · intro x hx; refine .inl ?_
      simp only [List.mem_cons, List.not_mem_nil, or_false] at hx
      rcases hx with rfl | rfl <;> rfl
/-- what make_class asks first -/
theorem eqOrdCls (X : Env0 (KK w) H) : FN prg w (hkW w) H (n + 1) (.val (.ref 236)) [.val .none, .val .none, .val .none, .val (.bool true)] [] (.tup [.val (.bool true), .val (.bool true)]) := by
  refine FN.defK (names := eqOrdN) [] X (by rfl) (BINDS.pos (fun vs h => ?_)) (by decide) (by rfl) ?_
  · match vs, h with
    | [a, b, c, d], _ => kernel_rfl
  refine EX.ifF (ET.bool (EB.andF (ET.cmp (EV.name rfl) EV.none (CMP.notNone' rfl)))) (EX.nil ?_)
  refine EX.ifF (ET.cmp (EV.name rfl) EV.none (CMP.notNone' rfl)) (EX.nil ?_)
  refine EX.ifT (ET.cmp (EV.name rfl) EV.none (CMP.none' rfl)) (EX.assign (EV.name rfl) (EX.nil ?_))
  refine EX.ifT (ET.cmp (EV.name rfl) EV.none (CMP.none' rfl)) (EX.assign (EV.name rfl) (EX.nil ?_))
  refine EX.ifF (ET.bool (EB.andF (ET.cmp (EV.name rfl) EV.bool CMP.is))) (EX.nil ?_)
  exact EX.ret (EV.tup (.cons (EV.name rfl) (.cons (EV.name rfl) .nil)) (sz rfl)) rfl
end
end Mine
end

section -- M2
open PySem PySem.Calls PySem.W PyProof.Rows PySem.SeqAt PySem.MeetsSeq
set_option maxRecDepth 100000
set_option linter.unusedVariables false
namespace Mine
section
variable {w : World} {H : Heap} {n : Nat} {k : Addr} {u v : PD} {F : Fm} {look : Look} {hk : PD → Int}
abbrev caC : Addr := 341
/-- the table of an attribute counted -/
def caEs (d : PD) : List (Str × PD) := [("_default", d), ("_validator", .val .none), ("converter", .val .none), ("eq", .val (.bool true)), ("eq_key", .val .none), ("order", .val (.bool true)), ("order_key", .val .none), ("init", .val (.bool true)), ("kw_only", .val .none), ("on_setattr", .val .none), ("alias", .val .none)]
def caKs (d : PD) : List (Str × PD) := [("default", d), ("validator", .val .none), ("init", .val (.bool true)), ("converter", .val .none), ("kw_only", .val .none), ("eq", .val (.bool true)), ("eq_key", .val .none), ("order", .val (.bool true)), ("order_key", .val .none), ("on_setattr", .val .none), ("alias", .val .none)]
def caNames : List Str := ["self", "default", "validator", "init", "converter", "kw_only", "eq", "eq_key", "order", "order_key", "on_setattr", "alias"]
theorem ca_new (X : Env0 (KK w) H) {d : PD} : FNO prg w (hkW w) H (n + 2) (.val (.ref 341)) [] (caKs d) (fun d' o => ∃ a D, d' = .val (.ref a) ∧ o = [(D, .dct (sEs (caEs d))), (a, .ins caC D)]) := by
  refine FNO.cls (fI := 324) (names := caNames) (ds := [d, .val .none, .val (.bool true), .val .none, .val .none, .val (.bool true), .val .none, .val (.bool true), .val .none, .val .none, .val .none]) [] X (by kernel_rfl) (by rfl) (fun x => ?_) (by decide) (by rfl) fun x D => ?_
  · refine BINDS.kw (fun vs us h1 h2 => ?_) rfl
    match vs, h1, us, h2 with
    | [a], _, [b, c, d, e, f, g, h, i, j, k, l], _ => kernel_rfl
  · refine EX.setAttr X rfl (EV.name rfl) (by kernel_rfl) ?_
    refine EX.setAttr X rfl (EV.name rfl) (by kernel_rfl) ?_
    refine EX.setAttr X rfl (EV.name rfl) (by kernel_rfl) ?_
    refine EX.setAttr X rfl (EV.name rfl) (by kernel_rfl) ?_
    refine EX.setAttr X rfl (EV.name rfl) (by kernel_rfl) ?_
    refine EX.setAttr X rfl (EV.name rfl) (by kernel_rfl) ?_
    refine EX.setAttr X rfl (EV.name rfl) (by kernel_rfl) ?_
    refine EX.setAttr X rfl (EV.name rfl) (by kernel_rfl) ?_
    refine EX.setAttr X rfl (EV.name rfl) (by kernel_rfl) ?_
    refine EX.setAttr X rfl (EV.name rfl) (by kernel_rfl) ?_
    refine EX.setAttr X rfl (EV.name rfl) (by kernel_rfl) ?_
    exact EX.nil ⟨x, D, rfl, rfl⟩
def atNames : List Str := ["default", "validator", "cmp", "init", "converter", "factory", "kw_only", "eq", "order", "on_setattr", "alias"]
theorem attrib_body (X : Env2 w H) {d : PD} : EX prg w (hkW w) H (n + 2) ⟨(fdOf (KK w) 78).scope, some (codeOf (fdOf (KK w) 78)), Option.none⟩ [] (fun x => (atNames.zip [d, .val .none, .val .none, .val (.bool true), .val .none, .val .none, .val .none, .val .none, .val .none, .val .none, .val .none]).lookup x) [] (bodyOf (fdOf (KK w) 78)) (Rets (.inst caC (sEs (caEs d)))) := by
  refine EX.unpack (xs := [("eq", _), ("eq_key", _), ("order", _), ("order_key", _)]) (ds := [.val (.bool true), .val .none, .val (.bool true), .val .none]) (EV.callF (EV.gk X.toEnv0) (.cons (EV.name rfl) (.cons (EV.name rfl) (.cons (EV.name rfl) (.cons EV.bool .nil)))) .nil (KP.Kk X.toEnv0) (eqOrd_none X)) ?_ ?_
  · refine EX.ifF (ET.cmp (EV.name rfl) EV.none (CMP.notNone' rfl)) (EX.nil ?_)
    refine EX.ifF (ET.bool (EB.andF (ET.val (EV.name rfl) .none))) (EX.nil ?_)
    refine EX.ifF (ET.bool (EB.andF (ET.val (EV.name rfl) .none))) (EX.nil ?_)
    refine EX.retInst (EVN.call (EV.gk X.toEnv0) .nil (.cons (EV.name rfl) (.cons (EV.name rfl) (.cons (EV.name rfl) (.cons (EV.name rfl) (.cons (EV.name rfl) (.cons (EV.name rfl) (.cons (EV.name rfl) (.cons (EV.name rfl) (.cons (EV.name rfl) (.cons (EV.name rfl) (.cons (EV.name rfl) .nil))))))))))) (KP.cls X.toKOk (by kernel_rfl)) (ca_new X.toEnv0)) rfl
  · intro x hx; refine .inl ?_
    simp only [List.mem_cons, List.not_mem_nil, or_false] at hx
    rcases hx with rfl | rfl | rfl | rfl <;> rfl
theorem attrib0 (X : Env2 w H) : FN prg w (hkW w) H (n + 3) (.val (.ref 78)) [] [] (.inst caC (sEs (caEs (.val (.ref 70))))) := by
  refine FN.defK (names := atNames) [] X.toEnv0 (by rfl) (BINDS.peek (R := fun _ _ => [.ref 70, .none, .none, .bool true, .none, .none, .none, .none, .none, .none, .none]) X.toKOk (fun vs us h1 h2 => ?_) (fun L vs us _ _ => ?_) rfl) (by decide) (by rfl) (attrib_body X)
  · match vs, h1, us, h2 with
    | [], _, [], _ => kernel_rfl
  · exact .cons (.val _) (.cons (.val _) (.cons (.val _) (.cons (.val _) (.cons (.val _) (.cons (.val _) (.cons (.val _) (.cons (.val _) (.cons (.val _) (.cons (.val _) (.cons (.val _) .nil))))))))))
theorem attribD (X : Env2 w H) {d : PD} : FN prg w (hkW w) H (n + 3) (.val (.ref 78)) [] [("default", d)] (.inst caC (sEs (caEs d))) := by
  refine FN.defK (names := atNames) [] X.toEnv0 (by rfl) (BINDS.peek (R := fun _ us => [us.headD .none, .none, .none, .bool true, .none, .none, .none, .none, .none, .none, .none]) X.toKOk (fun vs us h1 h2 => ?_) (fun L vs us _ i2 => ?_) rfl) (by decide) (by rfl) (attrib_body X)
  · match vs, h1, us, h2 with
    | [], _, [a], _ => kernel_rfl
  · cases i2 with
    | cons j1 j2 => exact .cons j1 (.cons (.val _) (.cons (.val _) (.cons (.val _) (.cons (.val _) (.cons (.val _) (.cons (.val _) (.cons (.val _) (.cons (.val _) (.cons (.val _) (.cons (.val _) .nil))))))))))
end
end Mine
end

section -- M3
open PySem PySem.Calls PySem.W PyProof.Rows PySem.SeqAt PySem.MeetsSeq
set_option maxRecDepth 100000
set_option linter.unusedVariables false
namespace Mine
section
variable {w : World} {H : Heap} {n : Nat} {k : Addr} {u v : PD} {F : Fm} {look : Look} {hk : PD → Int}
/-- the table of an attribute, as it is made -/
def atEs (y : Str) (d al : PD) : List (Str × PD) := [("name", .str y), ("default", d), ("validator", .val .none), ("eq", .val (.bool true)), ("eq_key", .val .none), ("order", .val (.bool true)), ("order_key", .val .none), ("init", .val (.bool true)), ("converter", .val .none), ("kw_only", .val (.bool false)), ("inherited", .val (.bool false)), ("on_setattr", .val .none), ("alias", al), ("alias_is_default", .val (.bool true))]
def atINames : List Str := ["self", "name", "default", "validator", "cmp", "init", "inherited", "converter", "kw_only", "eq", "eq_key", "order", "order_key", "on_setattr", "alias", "alias_is_default"]
def atArgs (y : Str) (d : PD) : List PD := [.str y, d, .val .none, .val .none, .val (.bool true), .val (.bool false), .val .none, .val (.bool false), .val (.bool true), .val .none, .val (.bool true), .val .none, .val .none, .val .none, .val (.bool true)]
/-- a new attribute -/
def AtNew (y : Str) (d : PD) (d' : PD) (o : Own) : Prop := ∃ a D, d' = .val (.ref a) ∧ o = [(D, .dct (sEs (atEs y d (.val .none)))), (a, .ins attrC D)]
/-- the names of Attribute's __init__ -/
abbrev atILook (x : Addr) (y : Str) (d : PD) : Look := upds (fun z => (atINames.zip (.val (.ref x) :: atArgs y d)).lookup z) ["eq", "eq_key", "order", "order_key"] [.val (.bool true), .val .none, .val (.bool true), .val .none]
noncomputable abbrev atIF (w : World) : Fm := ⟨(fdOf (KK w) 272).scope, some (codeOf (fdOf (KK w) 272)), Option.none⟩
theorem at_init3 (X : Env0 (KK w) H) {y : Str} {d : PD} {x D : Addr} : EX prg w (hkW w) H n (atIF w) [] (atILook x y d) [(D, .dct (sEs ((atEs y d (.val .none)).take 10))), (x, .ins attrC D)] ((bodyOf (fdOf (KK w) 272)).drop 11) ⟨fun _ o => AtNew y d (.val (.ref x)) o, fun _ _ => False, fun _ _ => False⟩ := by
  refine EX.setAttr X rfl (EV.name rfl) (by kernel_rfl) ?_
  refine EX.setAttr X rfl (EV.name rfl) (by kernel_rfl) ?_
  refine EX.setAttr X rfl (EV.name rfl) (by kernel_rfl) ?_
  refine EX.setAttr X rfl (d := .val (.bool true)) (EV.ifF (ET.cmp (EV.name rfl) EV.none (CMP.none' rfl)) (EV.name rfl)) (by kernel_rfl) ?_
  exact EX.nil ⟨x, D, rfl, rfl⟩
theorem at_init2 (X : Env0 (KK w) H) {y : Str} {d : PD} {x D : Addr} : EX prg w (hkW w) H n (atIF w) [] (atILook x y d) [(D, .dct (sEs ((atEs y d (.val .none)).take 5))), (x, .ins attrC D)] ((bodyOf (fdOf (KK w) 272)).drop 6) ⟨fun _ o => AtNew y d (.val (.ref x)) o, fun _ _ => False, fun _ _ => False⟩ := by
  refine EX.setAttr X rfl (EV.name rfl) (by kernel_rfl) ?_
  refine EX.setAttr X rfl (EV.name rfl) (by kernel_rfl) ?_
  refine EX.setAttr X rfl (EV.name rfl) (by kernel_rfl) ?_
  refine EX.setAttr X rfl (EV.name rfl) (by kernel_rfl) ?_
  refine EX.setAttr X rfl (EV.name rfl) (by kernel_rfl) ?_
  exact at_init3 X
theorem at_init1 (X : Env0 (KK w) H) {y : Str} {d : PD} {x D : Addr} : EX prg w (hkW w) H n (atIF w) [] (atILook x y d) [(D, .dct (sEs [])), (x, .ins attrC D)] ((bodyOf (fdOf (KK w) 272)).drop 1) ⟨fun _ o => AtNew y d (.val (.ref x)) o, fun _ _ => False, fun _ _ => False⟩ := by
  refine EX.setAttr X rfl (EV.name rfl) (by kernel_rfl) ?_
  refine EX.setAttr X rfl (EV.name rfl) (by kernel_rfl) ?_
  refine EX.setAttr X rfl (EV.name rfl) (by kernel_rfl) ?_
  refine EX.setAttr X rfl (EV.name rfl) (by kernel_rfl) ?_
  refine EX.setAttr X rfl (EV.name rfl) (by kernel_rfl) ?_
  exact at_init2 X
theorem at_new (X : Env2 w H) {y : Str} {d : PD} : FNO prg w (hkW w) H (n + 4) (.val (.ref 306)) (atArgs y d) [] (AtNew y d) := by
  refine FNO.cls (fI := 272) (names := atINames) (ds := atArgs y d) [] X.toEnv0 (by kernel_rfl) (by rfl) (fun x => ?_) (by decide) (by rfl) fun x D => ?_
  · refine BINDS.peek (R := fun vs _ => vs) X.toKOk (fun vs us h1 h2 => ?_) (fun _ _ _ i _ => i) rfl
    match vs, h1, us, h2 with
    | [a, b, c, d, e, f, g, h, i, j, k, l, m, n, o, p], _, [], _ => kernel_rfl
  · refine EX.unpack (xs := [("eq", _), ("eq_key", _), ("order", _), ("order_key", _)]) (ds := [.val (.bool true), .val .none, .val (.bool true), .val .none]) (EV.callF (EV.gk X.toEnv0) (.cons (EV.name rfl) (.cons (EV.or2F (EV.name rfl) .none (EV.name rfl)) (.cons (EV.or2F (EV.name rfl) .none (EV.name rfl)) (.cons EV.bool .nil)))) .nil (KP.Kk X.toEnv0) (eqOrd_true X)) ?_ ?_
    · exact at_init1 X.toEnv0
    · intro x hx; refine .inl ?_
      simp only [List.mem_cons, List.not_mem_nil, or_false] at hx
      rcases hx with rfl | rfl | rfl | rfl <;> rfl
theorem handed_str {L : Led} {y : Str} {v : Value} (i : Is hk L v (.str y)) : handedIn v = true := by cases i; rfl
theorem handed_none {L : Led} {v : Value} (i : Is hk L v (.val .none)) : handedIn v = true := by cases i; rfl
theorem handed_bool {L : Led} {b : Bool} {v : Value} (i : Is hk L v (.val (.bool b))) : handedIn v = true := by cases i; rfl
/-- Attribute.from_counting_attr -/
theorem fromCa (X : Env2 w H) {y : Str} {d : PD} (hd : ∀ (L : Led) (v : Value), Is (hkW w) L v d → handedIn v = true) : EX prg w (hkW w) H (n + 4) ⟨(fdOf (KK w) 293).scope, some (codeOf (fdOf (KK w) 293)), Option.none⟩ [] (fun x => (([("cls" : Str), "name", "ca", "kw_only"] : List Str).zip [.val (.ref 306), .str y, .inst caC (sEs (caEs d)), .val (.bool false)]).lookup x) [] (bodyOf (fdOf (KK w) 293)) ⟨fun _ _ => False, fun _ _ => False, AtNew y d⟩ := by
  have ca : ∀ {name : Str} {r : PD} {p1 p2 : Pos} {F : Fm}, plainGet (KK w) caC name = true → hasDictIn (KK w) caC = true → (∀ a, findIn (KK w) (.ref caC) name = some a → noGet (KK w) a = true) → (findIn (KK w) (.ref caC) name).isSome = true → (caEs d).find? (fun p => p.1 == name) = some (name, r) → (∀ (L : Led) (v : Value), Is (hkW w) L v r → handedIn v = true) →
      EV prg w (hkW w) H (n + 4) F (fun x => (([("cls" : Str), "name", "ca", "kw_only"] : List Str).zip [.val (.ref 306), .str y, .inst caC (sEs (caEs d)), .val (.bool false)]).lookup x) (.Attribute (.Name "ca" p1) name p2) r := fun h1 h2 h3 h4 h5 h6 => by
    obtain ⟨a, ha⟩ := Option.isSome_iff_exists.mp h4
    exact EV.attr (EV.name rfl) (AT.inst (i := 0) X.toKOk h1 h2 (a := a) ha (h3 a ha) h5 h6)
  have cn : ∀ {name : Str} {p1 p2 : Pos} {F : Fm} {r : PD}, plainGet (KK w) caC name = true → hasDictIn (KK w) caC = true → findIn (KK w) (.ref caC) name = some Option.none → (caEs d).find? (fun p => p.1 == name) = some (name, r) → (∀ (L : Led) (v : Value), Is (hkW w) L v r → handedIn v = true) →
      EV prg w (hkW w) H (n + 4) F (fun x => (([("cls" : Str), "name", "ca", "kw_only"] : List Str).zip [.val (.ref 306), .str y, .inst caC (sEs (caEs d)), .val (.bool false)]).lookup x) (.Attribute (.Name "ca" p1) name p2) r := fun h1 h2 h3 h4 h5 =>
    EV.attr (EV.name rfl) (AT.inst (i := 0) X.toKOk h1 h2 (a := Option.none) h3 rfl h4 h5)
  refine EX.retN (EVN.call (ps := atArgs y d) (EV.name (d := .val (.ref 306)) rfl) ?_ .nil (KP.cls X.toKOk (by kernel_rfl)) (at_new X)) fun d' o h => by rw [List.append_nil]; exact h
  refine .cons (EV.name rfl) ?_
  refine .cons (cn (by kernel_rfl) (by kernel_rfl) (by kernel_rfl) (by rfl) hd) ?_
  refine .cons (cn (by kernel_rfl) (by kernel_rfl) (by kernel_rfl) (by rfl) fun _ _ => handed_none) ?_
  refine .cons EV.none ?_
  refine .cons (cn (by kernel_rfl) (by kernel_rfl) (by kernel_rfl) (by rfl) fun _ _ => handed_bool) ?_
  refine .cons EV.bool ?_
  refine .cons (cn (by kernel_rfl) (by kernel_rfl) (by kernel_rfl) (by rfl) fun _ _ => handed_none) ?_
  refine .cons (EV.ifT (ET.cmp (cn (r := .val .none) (by kernel_rfl) (by kernel_rfl) (by kernel_rfl) (by rfl) fun _ _ => handed_none) EV.none (CMP.none' rfl)) (EV.name rfl)) ?_
  refine .cons (cn (by kernel_rfl) (by kernel_rfl) (by kernel_rfl) (by rfl) fun _ _ => handed_bool) ?_
  refine .cons (cn (by kernel_rfl) (by kernel_rfl) (by kernel_rfl) (by rfl) fun _ _ => handed_none) ?_
  refine .cons (cn (by kernel_rfl) (by kernel_rfl) (by kernel_rfl) (by rfl) fun _ _ => handed_bool) ?_
  refine .cons (cn (by kernel_rfl) (by kernel_rfl) (by kernel_rfl) (by rfl) fun _ _ => handed_none) ?_
  refine .cons (cn (by kernel_rfl) (by kernel_rfl) (by kernel_rfl) (by rfl) fun _ _ => handed_none) ?_
  refine .cons (cn (by kernel_rfl) (by kernel_rfl) (by kernel_rfl) (by rfl) fun _ _ => handed_none) ?_
  exact .cons (EV.cmp (cn (r := .val .none) (by kernel_rfl) (by kernel_rfl) (by kernel_rfl) (by rfl) fun _ _ => handed_none) EV.none (CMP.none' rfl)) .nil
end
end Mine
end

section -- M4
open PySem PySem.Calls PySem.W PyProof.Rows PySem.SeqAt PySem.MeetsSeq
set_option maxRecDepth 100000
set_option linter.unusedVariables false
namespace Mine
section
variable {prog : Program} {w : World} {H : Heap} {hk : PD → Int} {n m : Nat} {F : Fm} {wc : List Str} {look : Look} {own own' : Own} {A : Around} {B : Bs} {s s' s₁ : Shared} {L L' L₂ Lw : Led} {env : Env} {E : Value → Shared → Prop} {K : Frag} {G : Goal}
theorem EX.whileF {test : Expr} {body rest : List Stmt} {pos : Pos} (ht : ET prog w hk H n F look test false) (k : EX prog w hk H n F wc look own rest G) : EX prog w hk H n F wc look own (.While test body [] pos :: rest) G := .step fun A B s L env ok st => by
  refine wpAny_While (codeAny_whileLoop (fun _ s' => s' = s) ?_ 0 rfl)
  rintro _ _ rfl
  refine ht.use ok st.pre fun s' q p => ?_
  simp only [Bool.false_eq_true, if_false]
  exact wpAny_execs_nil ⟨_, _, _, k, st.step q⟩
end
section
variable {w : World} {H : Heap} {n : Nat} {k : Addr} {u v : PD} {F : Fm} {look : Look} {hk : PD → Int}
theorem linear_one (X : Env0 (KK w) H) {x : Addr} : FN prg w (hkW w) H (n + 1) (.val (.ref 144)) [.val (.ref x), .tup []] [] (.list [.val (.ref x)]) := by
  refine FN.k2 (x := "kind") (y := "bases") ["rows", "heads"] X (by rfl) (fun u v => by kernel_rfl) (by decide) (by rfl) ?_
  refine EX.assign (d1 := .list [.list []]) (EV.bin (a := .list []) (b := .list [.list []]) ?_ (EV.list (.cons ?_ .nil) (sz rfl)) (BIN.addL (sz rfl))) ?_
  · exact EV.listCompI (rs := []) (f := fun _ l => l) (IT.tup (ds := []) (EV.name rfl)) (sz rfl) (.of (by rfl)) rfl (fun x hx => (nomatch hx)) (fun x hx => (nomatch hx)) (fun i x r hx => (nomatch hx))
  · exact EV.listCompI (rs := []) (f := fun _ l => l) (IT.tup (ds := []) (EV.name rfl)) (sz rfl) (.of (by rfl)) rfl (fun x hx => (nomatch hx)) (fun x hx => (nomatch hx)) (fun i x r hx => (nomatch hx))
  · refine EX.assign (d1 := .list [.val (.ref x)]) (EV.list (.cons (EV.name rfl) .nil) (sz rfl)) ?_
    refine EX.whileF (ET.val (d := .list []) (EV.listComp (f := fun x l => match x with | .one d => upd l "row" d | _ => l) (g := fun _ => Option.none) (items := [.one (.list [])]) (IT.list (ds := [.list []]) (EV.name rfl)) (sz rfl) (.of (by rfl)) (fun y hy => ?_) (fun y hy => ?_) (fun y hy => ?_)) (TRU.list (xs := []) (by decide))) ?_
    · obtain rfl := List.mem_singleton.mp hy; exact TGI.one TG.name
    · obtain rfl := List.mem_singleton.mp hy; exact compLook_upd (by rfl)
    · obtain rfl := List.mem_singleton.mp hy
      exact ETS.one (ET.val (EV.name rfl) (TRU.list (xs := []) (by decide)))
    · exact EX.ret (EV.name rfl) rfl
/-- the table of a kind, as it is made -/
def kdEs (x : Addr) (at_ eq or_ : PD) : List (Str × PD) := [("name", .str "Drawn"), ("mro", .list [.val (.ref x)]), ("attrs", at_), ("eq_attrs", eq), ("order_attrs", or_)]
theorem kind_new (X : Env0 (KK w) H) : FNO prg w (hkW w) H (n + 3) (.val (.ref 135)) [.str "Drawn", .tup []] [] (fun d o => ∃ x D, d = .val (.ref x) ∧ o = [(D, .dct (sEs (kdEs x (.tup []) (.val .none) (.val .none)))), (x, .ins kindC D)]) := by
  refine FNO.cls (fI := 111) (names := ["self", "name", "bases"]) (ds := [.str "Drawn", .tup []]) [] X (by kernel_rfl) (by rfl) (fun x => ?_) (by decide) (by rfl) fun x D => ?_
  · refine BINDS.pos (fun vs h => ?_)
    match vs, h with
    | [a, b, c], _ => kernel_rfl
  · refine EX.setAttr X rfl (EV.name rfl) (by kernel_rfl) ?_
    refine EX.setAttr X rfl (EV.callF (EV.gk X) (.cons (EV.name rfl) (.cons (EV.name rfl) .nil)) .nil (KP.Kk X) (linear_one X)) (by kernel_rfl) ?_
    refine EX.setAttr X rfl (EV.tup .nil (sz rfl)) (by kernel_rfl) ?_
    refine EX.setAttr X rfl EV.none (by kernel_rfl) ?_
    refine EX.setAttr X rfl EV.none (by kernel_rfl) ?_
    exact EX.nil ⟨x, D, rfl, rfl⟩
end
end Mine
end

section -- M5
open PySem PySem.Calls PySem.W PyProof.Rows PySem.SeqAt PySem.MeetsSeq
set_option maxRecDepth 100000
set_option linter.unusedVariables false
namespace Mine
section
variable {prog : Program} {w : World} {H : Heap} {hk : PD → Int} {n m : Nat} {F : Fm} {wc : List Str} {look : Look} {own own' : Own} {A : Around} {B : Bs} {s s' s₁ : Shared} {L L' L₂ Lw : Led} {env : Env} {E : Value → Shared → Prop} {K : Frag} {G : Goal} {t : Expr} {items : List Item}
theorem EX.unpackO {xs : List (Str × Pos)} {kk : Nat} {tpos pos : Pos} {e : Expr} {ds : List PD} {rest : List Stmt} (h : EVO prog w hk H n F wc look own e (.tup ds)) (k : EX prog w hk H n F wc (upds look (xs.map (·.1)) ds) own rest G)
    (hx : ∀ x ∈ xs, F.sc.names.lookup x.1 = some .local ∨ (F.sc.names.lookup x.1 = some .cell ∧ x.1 ∈ wc)) (hl : xs.length = ds.length := by rfl)
    (hs : ∀ env, swapsWithSole [.Tuple (nameTs xs) kk tpos] e pos.line env = pure false := by intro _; rfl) (hw : ∀ env, swappedStores [.Tuple (nameTs xs) kk tpos] e env = pure none := by intro _; rfl) :
    EX prog w hk H n F wc look own (.Assign [.Tuple (nameTs xs) kk tpos] e pos :: rest) G := .step fun A B s L env ok st =>
  Assign_Tuple (wpAny_mono (h A B s L env ok st) (fun v s' e => by
    obtain ⟨q, i⟩ := e
    obtain ⟨T, vals, rfl, ht, iv⟩ := (st.step q).tuple i
    exact (st.step q).unpack ok.handled ht iv hl hx fun s'' L'' _ st'' => ⟨_, _, _, k, st''⟩) fun _ _ f => f) (hs env) (hw env)
theorem CMP.isNotTop {i : Int} {a : Addr} : CMP prog w hk H n .IsNot (.int i) (.val (.ref a)) true := fun A s L u v ok inv led iu iv => by
  cases iu; cases iv; exact wpAny_isNot_other rfl (by simp) ⟨rfl, .refl inv⟩
theorem TRU.str {x : Str} (h : (x.length : Int) < 2 ^ 63) : TRU prog w hk H (.str x) ((x.length : Int) != 0) := fun A s L u _ inv _ i => by
  cases i; exact P.truthy_str (by omega) ⟨rfl, .toks inv _⟩
/-- a list comprehension whose tests look at own objects -/
theorem EVX.listOwn {elt iter : Expr} {ifs : List Expr} {scope : Scope} {pos : Pos} {f : Item → Look → Look} {ds : List PD} (J : Nat → List PD → Prop)
    (hit : IT prog w hk H n F look iter t items) (hsz : items.length ≤ sizeLine) (hsc : ScOk F scope)
    (hJo : ∀ i ys, J i ys → ys.length ≤ i) (h0 : J 0 [])
    (tg : ∀ x ∈ items, TGI prog w hk H (F.comp scope) [] t x (f x)) (hf : ∀ x ∈ items, ∀ y d, compLook F scope look y = some d → f x (compLook F scope look) y = some d)
    (hb : ∀ i x ys, items[i]? = some x → J i ys → TURNL prog w hk H n (F.comp scope) (f x (compLook F scope look)) own ifs elt fun r o' => o' = own ∧ J (i + 1) (ys ++ r.toList))
    (k : ∀ ys, J items.length ys → ys = ds)
    (hs : ∀ env x, foldedSetIterable iter env x = Pure.pure x := by intro _ _; rfl) : EVX prog w hk H n F wc look own (.ListComp elt [⟨t, iter, ifs, 0⟩] scope pos) (fun d o => d = .list ds ∧ o = own) := fun A B s L env ok st => by
  rw [eval_listComp]
  refine comp_listG (E := fun _ _ => False) (B := ⟨s, L, fun a => ∃ p ∈ own, a = p.1⟩) ok st.pre hit hsz hsc.cell hsc.kind hsc.names hsc.free (hs env) (fun i ys o => o = own ∧ J i ys) (fun i ys o h => hJo i ys h.2) ⟨rfl, h0⟩ tg hf (fun i x ys o hx hJ => ?_) (fun s₂ L₂ q sub ho hbb => ?_) (fun p hp => (st.ownAt p hp).2.2.2.2) (fun b e => e) (fun p hp => ⟨(st.ownAt p hp).1.there, (st.ownAt p hp).2.2.1⟩) fun ys o L' s' D C hJ hC ow i ⟨m, hn⟩ hlo hl => ?_
  · obtain ⟨rfl, hJ⟩ := hJ
    exact hb i x ys hx hJ
  · have st₂ := st.stepL q sub ho hbb
    refine ⟨st.pre.inv, fun a e => ?_, PureX.of q, fun a o e => (hbb a o e).imp id fun e => .inl e, sub, ho, fun p hp => ?_, st.nodup⟩
    · obtain ⟨p, hp, rfl⟩ := e; exact st.mine (st.ownAt p hp).2.1
    · obtain ⟨a, b, c, _⟩ := st₂.ownAt p hp
      exact ⟨a, .inr ⟨p, hp, rfl⟩, c⟩
  · obtain ⟨rfl, hJ⟩ := hJ
    obtain rfl := k ys hJ
    have st' : St hk H B F wc env look o L' s' := st.afterG ow
    have ne : ∀ {a : Addr}, (∃ o, s.heap.get? a = some o) → a ≠ C := fun ⟨o, e⟩ q => by rw [q, hC] at e; cases e
    refine ⟨m, hn, fun h' hs' => ⟨_, _, L', ⟨rfl, rfl⟩, ?_, i, ow.sub⟩⟩
    exact st'.but (tk := s'.toks) (h' := h') (wr := [C]) (fun b hb => by rw [List.mem_singleton.mp hb]; exact st.pure.none hC) (fun b hb => by rw [List.mem_singleton.mp hb]; exact hl)
      (fun p hp h => hlo p hp (List.mem_singleton.mp h)) (fun h => ne (by obtain ⟨_, _, m, c⟩ := st.loc; exact Ns.there c) (List.mem_singleton.mp h))
      (fun y c e h => ne (st.pre.cthere y c e) (List.mem_singleton.mp h)) (fun b hb => by rw [List.mem_singleton.mp hb]; exact RecAt.ns hn) (fun b o hb e => (hs'.2 b fun q => hb (by simp [q])).trans e)
end
section
variable {w : World} {H : Heap} {n : Nat} {k : Addr} {u v : PD} {F : Fm} {wc : List Str} {look : Look} {own : Own} {hk : PD → Int} {G : Goal} {L : Led}
/-- an attribute's two objects -/
abbrev AtOwn (y : Str) (d al : PD) (a D : Addr) : Own := [(D, .dct (sEs (atEs y d al))), (a, .ins attrC D)]
theorem Is.toAttr {a : Addr} {y : Str} {d : PD} (i : Is hk L (.ref a) (.inst attrC (sEs (atEs y d (.str y))))) : Is hk L (.ref a) (.attr y) := by
  cases i with
  | inst h1 h2 =>
    cases h2 with
    | @dict dx o ds ep _ g1 g2 g3 g4 =>
      have eo : o = dictOf ds.toList ep := by
        obtain ⟨oc, od, oda, osl⟩ := o
        obtain ⟨e1, e2, e3⟩ := g2
        dsimp only at e1 e2 e3 g3
        subst e1 e2 e3 g3
        simp
      obtain ⟨v1, f1, j1⟩ := getL_some (name := "name") (r := .str y) g4 (by rfl)
      obtain ⟨v2, f2, j2⟩ := getL_some (name := "alias") (r := .str y) g4 (by rfl)
      obtain ⟨v3, f3, j3⟩ := getL_some (name := "eq_key") (r := .val .none) g4 (by rfl)
      obtain ⟨v4, f4, j4⟩ := getL_some (name := "init") (r := .val (.bool true)) g4 (by rfl)
      obtain ⟨v5, f5, j5⟩ := getL_some (name := "kw_only") (r := .val (.bool false)) g4 (by rfl)
      obtain ⟨v6, f6, j6⟩ := getL_some (name := "converter") (r := .val .none) g4 (by rfl)
      obtain ⟨v7, f7, j7⟩ := getL_some (name := "validator") (r := .val .none) g4 (by rfl)
      obtain ⟨v8, f8, j8⟩ := getL_some (name := "default") (r := d) g4 (by rfl)
      obtain ⟨v9, f9, j9⟩ := getL_some (name := "eq") (r := .val (.bool true)) g4 (by rfl)
      obtain ⟨v10, f10, j10⟩ := getL_some (name := "order") (r := .val (.bool true)) g4 (by rfl)
      cases j1; cases j2; cases j3; cases j4; cases j5; cases j6; cases j7; cases j9; cases j10
      exact .attr ⟨_, ds.toList, ep, _, _, h1, eo ▸ g1, f1, f2, f3, f4, f5, f6, f7, f9, f10, _, f8⟩
/-- the attributes are made; from now on they stand -/
theorem EX.freezeAttrs {prog : Program} {x : Str} {y1 y2 : Str} {d1 d2 : PD} {a1 a2 D1 D2 : Addr} {ss : List Stmt} (hx : look x = some (.list [.val (.ref a1), .val (.ref a2)])) (h : EX prog w hk H n F wc (upd look x (.list [.attr y1, .attr y2])) own ss G) :
    EX prog w hk H n F wc look (AtOwn y1 d1 (.str y1) a1 D1 ++ (AtOwn y2 d2 (.str y2) a2 D2 ++ own)) ss G := fun A B s L env ok st => by
  obtain ⟨L₁, st₁, i₁, sub₁, _⟩ := St.viewI (b := false) st (by rfl)
  obtain ⟨L₂, st₂, i₂, sub₂, _⟩ := St.viewI (b := false) st₁ (by rfl)
  have vw : ∀ z d', upd look x (.list [.attr y1, .attr y2]) z = some d' → ∃ v, Reads1 s.heap env z v ∧ Is hk L₂ v d' := fun z d' e => by
    unfold upd at e
    split at e
    · obtain rfl := Option.some.inj e
      rename_i hz
      obtain ⟨v, r, iv⟩ := st.pre.view x _ hx
      refine ⟨v, hz ▸ r, ?_⟩
      cases iv with
      | list g1 g2 g3 g4 =>
        obtain ⟨u1, u2, eu, j1, j2⟩ := g4.two
        cases j1; cases j2
        exact .list (sub₂ _ _ (sub₁ _ _ g1)) g2 g3 (eu ▸ .cons (i₁.mono sub₂).toAttr (.cons i₂.toAttr .nil))
    · exact st₂.pre.view z d' e
  exact h A B s L₂ env ok { st₂ with pre := { st₂.pre with view := vw } }
/-- name.lstrip('_') -/
theorem alias_of (X : Env0 (KK w) H) {y : Str} (hy : y.length ≤ sizeLine) : FN prg w hk H (n + 1) (.val (.ref 257)) [.str y] [] (.str (Txt.lstripChars y "_")) := by
  refine FN.k1 (x := "name") [] X (by rfl) (fun u => by kernel_rfl) (by rfl) ?_
  exact EX.ret (EV.meth (EV.name rfl) (.cons EV.str .nil) (MT.lstrip hy)) rfl
/-- no base gives attributes -/
theorem collect_none (X : Env0 (KK w) H) {x : Addr} {at_ eq or_ : PD} : FN prg w hk H (n + 1) (.val (.ref 92)) [.inst kindC (sEs (kdEs x at_ eq or_)), .any] [] (.tup [.list [], .dict []]) := by
  refine FN.k2 (x := "cls") (y := "taken_attr_names") [] X (by rfl) (fun u v => by kernel_rfl) (by decide) (by rfl) ?_
  refine EX.assign (d1 := .list []) (EV.list .nil (sz rfl)) ?_
  refine EX.newOwn EN.dictE fun D => EX.freeze (x := "base_attr_map") rfl ?_
  refine .step (EX1.for (items := []) (f := fun _ l => l) (fun i l o => i = 0 ∧ o = [] ∧ l "base_attrs" = some (.list []) ∧ l "base_attr_map" = some (.dict [])) (IT.list (ds := []) (EV.sliceFrom (k := 1) (xs := [.val (.ref x)]) ?_ EV.int (sz rfl))) ⟨rfl, rfl, rfl, rfl⟩ (by rintro i l o ⟨_, rfl, _⟩; rfl) (fun x hx => (nomatch hx)) (fun i x l o hx => (nomatch hx)) ?_)
  · exact EV.attr (EV.name rfl) (AT.inst (i := 0) X.toKOk (by kernel_rfl) (by kernel_rfl) (a := Option.none) (by kernel_rfl) (by rfl) (by rfl) (fun L v i => by cases i; rfl))
  · rintro l o ⟨_, rfl, h1, h2⟩
    exact EX.ret (EV.tup (.cons (EV.name h1) (.cons (EV.name h2) .nil)) (sz rfl)) rfl
end
end Mine
end

section -- M6
open PySem PySem.Calls PySem.W PyProof.Rows PySem.SeqAt PySem.MeetsSeq
set_option maxRecDepth 100000
set_option linter.unusedVariables false
namespace Mine
section
variable {w : World} {H : Heap} {n : Nat} {k : Addr} {u v : PD} {F : Fm} {wc : List Str} {look : Look} {own : Own} {hk : PD → Int} {G : Goal} {L : Led}
noncomputable abbrev trF (w : World) : Fm := ⟨(fdOf (KK w) 97).scope, some (codeOf (fdOf (KK w) 97)), Option.none⟩
/-- a statement picked out -/
noncomputable def trS (w : World) (i : Nat) : Stmt := (bodyOf (fdOf (KK w) 97)).getD i (.Pass ⟨0, 0, 0, 0⟩)
theorem at_get (X : Env0 (KK w) H) {y name : Str} {d al r : PD} (hg : plainGet (KK w) attrC name = true) (hh : hasDictIn (KK w) attrC = true) (ha : findIn (KK w) (.ref attrC) name = some Option.none) (hx : (atEs y d al).find? (fun p => p.1 == name) = some (name, r)) (hr : ∀ (L : Led) (v : Value), Is hk L v r → handedIn v = true) :
    AT prg w hk H (.inst attrC (sEs (atEs y d al))) name r := AT.inst (i := 0) X.toKOk hg hh (a := Option.none) ha (by rfl) hx hr
/-- an attribute without a name to be called by gets one -/
theorem alias_turn (X : Env0 (KK w) H) {l : Look} {y : Str} {d : PD} {a D : Addr} (hy : y.length ≤ sizeLine) (hl : Txt.lstripChars y "_" = y) (hN : ∀ l', l' = upd l "a" (.val (.ref a)) → G.N l' (AtOwn y d (.str y) a D ++ own)) :
    EX prg w (hkW w) H (n + 1) (trF w) ["kw_only"] (upd l "a" (.val (.ref a))) (AtOwn y d (.val .none) a D ++ own) (forBody [trS w 4]) G := by
  refine EX.ifTO (ETO.viewI (x := "a") rfl (ETO.pure (ET.not (b := false) (ET.val (EV.attr (EV.name rfl) (at_get X (by kernel_rfl) (by kernel_rfl) (by kernel_rfl) (by rfl) fun _ _ => handed_none)) .none)))) ?_
  refine EX.setAttrO X rfl (EVO.viewI (x := "a") (b := false) rfl (EVO.pure (EV.callF (EV.gk X) (.cons (EV.attr (EV.name rfl) (at_get (r := .str y) X (by kernel_rfl) (by kernel_rfl) (by kernel_rfl) (by rfl) fun _ _ => handed_str)) .nil) .nil (KP.Kk X) (alias_of X hy))) (by rfl)) (by kernel_rfl) ?_
  rw [hl]
  refine EX.setAttr X rfl EV.bool (by kernel_rfl) ?_
  exact EX.nil (EX.nil (hN _ rfl))
/-- an attribute with one is left alone -/
theorem alias_keep (X : Env0 (KK w) H) {l : Look} {y : Str} {d : PD} {a D : Addr} (hy : ((y.length : Int) != 0) = true) (hz : (y.length : Int) < 2 ^ 63) (hN : ∀ l', l' = upd l "a" (.val (.ref a)) → G.N l' (AtOwn y d (.str y) a D ++ own)) :
    EX prg w (hkW w) H (n + 1) (trF w) ["kw_only"] (upd l "a" (.val (.ref a))) (AtOwn y d (.str y) a D ++ own) (forBody [trS w 8]) G := by
  refine EX.ifFO (ETO.viewI (x := "a") rfl (ETO.pure (ET.not (b := true) (ET.val (EV.attr (EV.name rfl) (at_get (r := .str y) X (by kernel_rfl) (by kernel_rfl) (by kernel_rfl) (by rfl) fun _ _ => handed_str)) (hy ▸ TRU.str hz))))) ?_
  exact EX.nil (EX.nil (hN _ rfl))
end
end Mine
end

section -- M7
open PySem PySem.Calls PySem.W PyProof.Rows PySem.SeqAt PySem.MeetsSeq
set_option maxRecDepth 100000
set_option linter.unusedVariables false
namespace Mine
section
variable {prog : Program} {w : World} {H : Heap} {hk : PD → Int} {n m : Nat} {F : Fm} {wc : List Str} {look : Look} {own own' : Own} {G : Goal}
theorem EX.permG {ss : List Stmt} (h : EX prog w hk H n F wc look own ss ⟨fun l o => ∃ o', o.Perm o' ∧ G.N l o', fun l o => ∃ o', o.Perm o' ∧ G.C l o', fun d o => ∃ o', o.Perm o' ∧ G.R d o'⟩) : EX prog w hk H n F wc look own ss G := fun A B s L env ok st =>
  wpAny_mono (h A B s L env ok st) (fun f s' e => by
    cases f with
    | next => obtain ⟨l, o, L', ⟨o', hp, hN⟩, st'⟩ := e; exact ⟨l, o', L', hN, st'.perm hp⟩
    | cont => obtain ⟨l, o, L', ⟨o', hp, hN⟩, st'⟩ := e; exact ⟨l, o', L', hN, st'.perm hp⟩
    | brk => exact e
    | ret v => obtain ⟨l, o, L', d, ⟨o', hp, hN⟩, st', i⟩ := e; exact ⟨l, o', L', d, hN, st'.perm hp, i⟩) fun _ _ f => f
end
section
variable {w : World} {H : Heap} {n : Nat} {k : Addr} {u v : PD} {F : Fm} {wc : List Str} {look : Look} {own : Own} {hk : PD → Int} {G : Goal} {L : Led}
abbrev dP : PD := .val (.ref 70)
abbrev dQ : PD := .int 0
abbrev OW (al1 al2 : PD) (a1 D1 a2 D2 : Addr) : Own := AtOwn "p" dP al1 a1 D1 ++ (AtOwn "q" dQ al2 a2 D2 ++ [])
theorem OW.swap (al1 al2 : PD) (a1 D1 a2 D2 : Addr) : (OW al1 al2 a1 D1 a2 D2).Perm (AtOwn "q" dQ al2 a2 D2 ++ (AtOwn "p" dP al1 a1 D1 ++ [])) := by
  unfold OW
  rw [List.append_nil, List.append_nil]
  exact List.perm_append_comm
/-- what the ends of _transform_attrs lean on -/
structure TrL (l : Look) (a1 a2 : Addr) : Prop where
  attrs : l "attrs" = some (.list [.val (.ref a1), .val (.ref a2)])
  base : l "base_attrs" = some (.list [])
  map : l "base_attr_map" = some (.dict [])
  tf : l "field_transformer" = some (.val .none)
theorem TrL.upd {l : Look} {a1 a2 : Addr} (h : TrL l a1 a2) {x : Str} {d0 : PD} (hx : x ∉ (["attrs", "base_attrs", "base_attr_map", "field_transformer"] : List Str)) : TrL (upd l x d0) a1 a2 := by
  have ne : ∀ y ∈ (["attrs", "base_attrs", "base_attr_map", "field_transformer"] : List Str), Mine.upd l x d0 y = l y := fun y hy => by
    unfold Mine.upd
    exact if_neg (by intro e; subst e; exact hx hy)
  exact ⟨(ne _ (by simp)).trans h.attrs, (ne _ (by simp)).trans h.base, (ne _ (by simp)).trans h.map, (ne _ (by simp)).trans h.tf⟩
def trRes : PD := .tup [.tup [.attr "p", .attr "q"], .list [], .dict []]
abbrev a12 (a1 a2 : Addr) : List PD := [.val (.ref a1), .val (.ref a2)]
theorem a12_mem {a1 a2 : Addr} {P : Item → Prop} (h : ∀ a, P (.one (.val (.ref a)))) : ∀ x ∈ (a12 a1 a2).map Item.one, P x := fun x hx => by
  obtain ⟨d, hd, rfl⟩ := List.mem_map.mp hx
  simp only [List.mem_cons, List.not_mem_nil, or_false] at hd
  rcases hd with rfl | rfl <;> exact h _
theorem tr_tail3 (X : Env0 (KK w) H) {l : Look} {a1 D1 a2 D2 : Addr} (h : TrL l a1 a2) : EX prg w (hkW w) H (n + 1) (trF w) ["kw_only"] l (OW (.str "p") (.str "q") a1 D1 a2 D2) ((bodyOf (fdOf (KK w) 97)).drop 8) (Rets trRes) := by
  refine .step (EX1.for (items := (a12 a1 a2).map Item.one) (f := aLook) (fun i l o => TrL l a1 a2 ∧ o = OW (.str "p") (.str "q") a1 D1 a2 D2) (IT.list (ds := a12 a1 a2) (EV.name h.attrs)) ⟨h, rfl⟩ (by rintro i l o ⟨_, rfl⟩; rfl) (a12_mem fun a => TGI.one TG.name) (fun i x l o hx hJ => ?_) ?_)
  · obtain ⟨hl, rfl⟩ := hJ
    match i, hx with
    | 0, hx =>
      obtain rfl := Option.some.inj hx
      exact alias_keep (n := n) X (by rfl) (by decide) fun l' e => ⟨e ▸ hl.upd (by decide), rfl⟩
    | 1, hx =>
      obtain rfl := Option.some.inj hx
      exact EX.permG (EX.perm (OW.swap ..) (alias_keep (n := n) X (by rfl) (by decide) fun l' e => ⟨_, (OW.swap ..).symm, e ▸ hl.upd (by decide), rfl⟩))
  · rintro l o ⟨hl, rfl⟩
    refine EX.freezeAttrs hl.attrs ?_
    exact EX.ret (EV.tup (.cons (EV.callF (EV.bk X) (.cons (EV.name (d := .list [.attr "p", .attr "q"]) rfl) .nil) .nil KP.type (FN.tupleOf (sz rfl))) (.cons (EV.name hl.base) (.cons (EV.name hl.map) .nil))) (sz rfl)) rfl
/-- the test within the comprehension that a loop goes over -/
def keepTest : Stmt → Expr
  | .For _ (.ListComp _ [⟨_, _, [c], _⟩] _ _) _ _ _ => c
  | _ => .Constant .none 0 ⟨0, 0, 0, 0⟩
theorem CMP.isNot {prog : Program} {hk : PD → Int} {u v : Value} {b : Bool} (hp : plainIs u v = true := by rfl) (hb : (!(u == v)) = b := by rfl) : CMP prog w hk H n .IsNot (.val u) (.val v) b := fun A s L x y _ inv _ i j => by
  cases i; cases j; exact wpAny_isNot_plain hp ⟨by rw [hb], .refl inv⟩
theorem keep_attr (X : Env0 (KK w) H) {F : Fm} {l : Look} {y : Str} {d al : PD} {a D : Addr} {o : Own} (hx : l "one" = some (.val (.ref a))) : ETO prg w (hkW w) H (n + 1) F [] l (AtOwn y d al a D ++ o) (keepTest (trS w 7)) true := by
  have h : ET prg w (hkW w) H (n + 1) F (upd l "one" (.inst attrC (sEs (atEs y d al)))) (keepTest (trS w 7)) true := by
    refine ET.bool (EB.andT (ET.cmp (EV.attr (EV.name rfl) (at_get (r := .val (.bool true)) X (by kernel_rfl) (by kernel_rfl) (by kernel_rfl) (by rfl) fun _ _ => handed_bool)) EV.bool CMP.isNot) (EB.andT (ET.cmp (EV.attr (EV.name rfl) (at_get (r := .val (.bool false)) X (by kernel_rfl) (by kernel_rfl) (by kernel_rfl) (by rfl) fun _ _ => handed_bool)) EV.bool CMP.is) EB.andNil))
  exact ETO.viewI (x := "one") hx (ETO.pure h)
/-- what the loop over the attributes kept holds -/
def HadJ (a1 D1 a2 D2 : Addr) (i : Nat) (l : Look) (o : Own) : Prop := TrL l a1 a2 ∧ o = OW (.str "p") (.str "q") a1 D1 a2 D2 ∧ (i ≤ 1 → l "had_default" = some (.val (.bool false)))
/-- the look for a default amiss -/
theorem tr_tail2 (X : Env0 (KK w) H) {l : Look} {a1 D1 a2 D2 : Addr} (h : TrL l a1 a2) : EX prg w (hkW w) H (n + 1) (trF w) ["kw_only"] l (OW (.str "p") (.str "q") a1 D1 a2 D2) ((bodyOf (fdOf (KK w) 97)).drop 5) (Rets trRes) := by
  refine EX.ifF (ET.cmp (EV.name h.tf) EV.none (CMP.notNone' rfl)) (EX.nil ?_)
  refine EX.assign (d1 := .val (.bool false)) EV.bool ?_
  have h' : TrL (upd l "had_default" (.val (.bool false))) a1 a2 := h.upd (by decide)
  refine .step (EX1.forX (ds := a12 a1 a2) (f := aLook) (HadJ a1 D1 a2 D2) (EVX.listOwn (fun i ys => ys = (a12 a1 a2).take i) (f := fun x l => match x with | .one d => upd l "one" d | _ => l) (items := (a12 a1 a2).map Item.one) (IT.list (ds := a12 a1 a2) (EV.name h'.attrs)) (sz rfl) (.of (by rfl)) (fun i ys e => by rw [e]; exact List.length_take_le _ _) rfl (a12_mem fun a => TGI.one TG.name) (a12_mem fun a => compLook_upd (by rfl)) (fun i x ys hx e => ?_) (fun ys e => e)) ⟨h', rfl, fun _ => rfl⟩ (by rintro i l o ⟨_, rfl, _⟩; rfl) (a12_mem fun a => TGI.one TG.name) (fun i x l o hx hJ => ?_) ?_)
  · subst e
    match i, hx with
    | 0, hx =>
      obtain rfl := Option.some.inj hx
      exact TURNL.keepO (fun D x => ETO.perm ((List.perm_middle (l₁ := AtOwn "p" dP (.str "p") a1 D1) (l₂ := (AtOwn "q" dQ (.str "q") a2 D2 ++ []))).symm) (keep_attr (n := n) X rfl)) (EV.name rfl) ⟨rfl, rfl⟩
    | 1, hx =>
      obtain rfl := Option.some.inj hx
      exact TURNL.keepO (fun D x => ETO.perm ((List.Perm.cons _ (OW.swap ..)).trans (List.perm_middle (l₁ := AtOwn "q" dQ (.str "q") a2 D2) (l₂ := (AtOwn "p" dP (.str "p") a1 D1 ++ []))).symm) (keep_attr (n := n) X rfl)) (EV.name rfl) ⟨rfl, rfl⟩
  · obtain ⟨hl, rfl, hd⟩ := hJ
    match i, hx with
    | 0, hx =>
      obtain rfl := Option.some.inj hx
      have hd := hd (by omega)
      refine EX.ifF (ET.bool (EB.andF (ET.cmp (EV.name (d := .val (.bool false)) hd) EV.bool CMP.is))) (EX.nil ?_)
      refine EX.ifFO (ETO.viewI (x := "a") rfl (ETO.pure (ET.bool (EB.andT (ET.cmp (EV.name (d := .val (.bool false)) hd) EV.bool CMP.is) (EB.andF (ET.cmp (EV.attr (EV.name rfl) (at_get (r := dP) X (by kernel_rfl) (by kernel_rfl) (by kernel_rfl) (by rfl) fun L v i => by cases i; rfl)) (EV.gk X) CMP.isNotRef)))))) ?_
      have r : HadJ a1 D1 a2 D2 1 (upd l "a" (.val (.ref a1))) (OW (.str "p") (.str "q") a1 D1 a2 D2) := ⟨hl.upd (by decide), rfl, fun _ => hd⟩
      exact EX.nil (EX.nil r)
    | 1, hx =>
      obtain rfl := Option.some.inj hx
      have hd := hd (by omega)
      refine EX.permG (EX.perm (OW.swap ..) ?_)
      refine EX.ifF (ET.bool (EB.andF (ET.cmp (EV.name (d := .val (.bool false)) hd) EV.bool CMP.is))) (EX.nil ?_)
      refine EX.ifTO (ETO.viewI (x := "a") rfl (ETO.pure (ET.bool (EB.andT (ET.cmp (EV.name (d := .val (.bool false)) hd) EV.bool CMP.is) (EB.andT (ET.cmp (EV.attr (EV.name rfl) (at_get (r := dQ) X (by kernel_rfl) (by kernel_rfl) (by kernel_rfl) (by rfl) fun L v i => by cases i; rfl)) (EV.gk X) CMP.isNotTop) EB.andNil))))) ?_
      refine EX.assign EV.bool (EX.nil (EX.nil ⟨_, (OW.swap ..).symm, (hl.upd (by decide)).upd (by decide), rfl, fun h => by omega⟩))
  · rintro l o ⟨hl, rfl, _⟩
    exact tr_tail3 X hl
end
end Mine
end

section -- M8
open PySem PySem.Calls PySem.W PyProof.Rows PySem.SeqAt PySem.MeetsSeq
set_option maxRecDepth 100000
set_option linter.unusedVariables false
namespace Mine
section
variable {w : World} {H : Heap} {n : Nat} {k : Addr} {u v : PD} {F : Fm} {wc : List Str} {look : Look} {own : Own} {hk : PD → Int} {G : Goal} {L : Led}
theorem tr_tail1 (X : Env0 (KK w) H) {l : Look} {a1 D1 a2 D2 : Addr} (h : TrL l a1 a2) : EX prg w (hkW w) H (n + 1) (trF w) ["kw_only"] l (OW (.val .none) (.val .none) a1 D1 a2 D2) ((bodyOf (fdOf (KK w) 97)).drop 4) (Rets trRes) := by
  refine .step (EX1.for (items := (a12 a1 a2).map Item.one) (f := aLook) (fun i l o => TrL l a1 a2 ∧ o = OW (if i = 0 then .val .none else .str "p") (if i = 2 then .str "q" else .val .none) a1 D1 a2 D2) (IT.list (ds := a12 a1 a2) (EV.name h.attrs)) ⟨h, rfl⟩ (by rintro i l o ⟨_, rfl⟩; rfl) (a12_mem fun a => TGI.one TG.name) (fun i x l o hx hJ => ?_) ?_)
  · obtain ⟨hl, rfl⟩ := hJ
    match i, hx with
    | 0, hx =>
      obtain rfl := Option.some.inj hx
      exact alias_turn (n := n) X (sz rfl) (by decide +kernel) fun l' e => ⟨e ▸ hl.upd (by decide), rfl⟩
    | 1, hx =>
      obtain rfl := Option.some.inj hx
      exact EX.permG (EX.perm (OW.swap ..) (alias_turn (n := n) X (sz rfl) (by decide +kernel) fun l' e => ⟨_, (OW.swap ..).symm, e ▸ hl.upd (by decide), rfl⟩))
  · rintro l o ⟨hl, rfl⟩
    exact tr_tail2 X hl
abbrev trThese : PD := .dict [(.str "p", .inst caC (sEs (caEs dP))), (.str "q", .inst caC (sEs (caEs dQ)))]
abbrev trArgs (x : Addr) (at_ eq or_ : PD) : List PD := [.inst kindC (sEs (kdEs x at_ eq or_)), trThese, .str "no", .val (.bool false), .val .none]
abbrev trNames : List Str := ["cls", "these", "kw_only", "collect_by_mro", "field_transformer"]
/-- the attributes made so far -/
def TrJ (i : Nat) (ys : List PD) (o : Own) : Prop := match i with
  | 0 => ys = [] ∧ o = []
  | 1 => ∃ a1 D1, ys = [.val (.ref a1)] ∧ o = AtOwn "p" dP (.val .none) a1 D1
  | _ => ∃ a1 D1 a2 D2, ys = a12 a1 a2 ∧ o = AtOwn "q" dQ (.val .none) a2 D2 ++ AtOwn "p" dP (.val .none) a1 D1
theorem tr_mid (X : Env0 (KK w) H) {x a1 D1 a2 D2 : Addr} {at_ eq or_ : PD} : EX prg w (hkW w) H (n + 1) (trF w) ["kw_only"] (upd (fun z => (trNames.zip (trArgs x at_ eq or_)).lookup z) "own_attrs" (.list (a12 a1 a2))) (OW (.val .none) (.val .none) a1 D1 a2 D2) ((bodyOf (fdOf (KK w) 97)).drop 1) (Rets trRes) := by
  refine EX.ifF (ET.val (d := .val (.bool false)) (EV.name rfl) (.bool _)) ?_
  refine EX.unpackO (xs := [("base_attrs", _), ("base_attr_map", _)]) (ds := [.list [], .dict []]) (EVO.viewL (x := "own_attrs") (b := false) rfl (EVO.pure (EV.callF (EV.gk X) (.cons (EV.name rfl) (.cons (EV.setComp (CP.set (f := aLook) (items := [.one (.inst attrC (sEs (atEs "p" dP (.val .none)))), .one (.inst attrC (sEs (atEs "q" dQ (.val .none))))]) (IT.list (ds := [.inst attrC (sEs (atEs "p" dP (.val .none))), .inst attrC (sEs (atEs "q" dQ (.val .none)))]) (EV.name rfl)) (by decide) (.of (by rfl)) (fun y hy => ?_) (fun y hy => ?_) (fun y hy => ?_))) .nil)) .nil (KP.Kk X) (collect_none X))) (by rfl)) (EX.nil ?_) ?_
  · rcases List.mem_cons.mp hy with rfl | hy
    · exact TGI.one TG.name
    · obtain rfl := List.mem_singleton.mp hy; exact TGI.one TG.name
  · rcases List.mem_cons.mp hy with rfl | hy
    · exact compLook_upd (by rfl)
    · obtain rfl := List.mem_singleton.mp hy; exact compLook_upd (by rfl)
  · rcases List.mem_cons.mp hy with rfl | hy
    · exact ⟨"p", EV.attr (EV.name rfl) (at_get (r := .str "p") X (by kernel_rfl) (by kernel_rfl) (by kernel_rfl) (by rfl) fun _ _ => handed_str)⟩
    · obtain rfl := List.mem_singleton.mp hy
      exact ⟨"q", EV.attr (EV.name rfl) (at_get (r := .str "q") X (by kernel_rfl) (by kernel_rfl) (by kernel_rfl) (by rfl) fun _ _ => handed_str)⟩
  · refine EX.ifF (ET.cmp (EV.name (d := .str "no") rfl) EV.str CMP.eqStr) (EX.nil ?_)
    refine EX.assign (d1 := .list (a12 a1 a2)) (EV.bin (EV.name (d := .list []) rfl) (EV.name (d := .list (a12 a1 a2)) rfl) (BIN.addL (sz rfl))) ?_
    exact tr_tail1 X ⟨rfl, rfl, rfl, rfl⟩
  · intro z hz; refine .inl ?_
    simp only [List.mem_cons, List.not_mem_nil, or_false] at hz
    rcases hz with rfl | rfl <;> rfl
theorem transform_attrs (X : Env2 w H) {x : Addr} {at_ eq or_ : PD} : FN prg w (hkW w) H (n + 6) (.val (.ref 97)) (trArgs x at_ eq or_) [] trRes := by
  have X0 := X.toEnv0
  refine FN.defK (names := trNames) ["kw_only"] X0 (by rfl) (BINDS.pos (fun vs h => ?_)) (by decide) (by rfl) ?_
  · match vs, h with
    | [a, b, c, d, e], _ => kernel_rfl
  refine EX.assignGrow TrJ (f := fun x l => match x with | .tup [a, b] => upds l ["attr_name", "ca"] [a, b] | _ => l) (IT.items (xs := [(.str "p", .inst caC (sEs (caEs dP))), (.str "q", .inst caC (sEs (caEs dQ)))]) (EV.name rfl) (sz rfl)) (sz rfl) (.of (by rfl)) (fun i ys o h => ?_) ⟨rfl, rfl⟩ (fun y hy => ?_) (fun y hy => ?_) (fun i y ys o hy hJ => ?_) (fun ys o hJ => ?_)
  · match i, h with
    | 0, h => rw [h.1]; exact Nat.le_refl _
    | 1, h => obtain ⟨_, _, rfl, _⟩ := h; exact Nat.le_refl _
    | (i + 2), h => obtain ⟨_, _, _, _, rfl, _⟩ := h; simp
  · rcases List.mem_cons.mp hy with rfl | hy
    · exact TGI.tup (xs := [("attr_name", _), ("ca", _)]) rfl (by intro z hz; simp only [List.mem_cons, List.not_mem_nil, or_false] at hz; rcases hz with rfl | rfl <;> exact .inl rfl)
    · obtain rfl := List.mem_singleton.mp hy
      exact TGI.tup (xs := [("attr_name", _), ("ca", _)]) rfl (by intro z hz; simp only [List.mem_cons, List.not_mem_nil, or_false] at hz; rcases hz with rfl | rfl <;> exact .inl rfl)
  · rcases List.mem_cons.mp hy with rfl | hy
    · exact compLook_upds (by rfl) (by rfl)
    · obtain rfl := List.mem_singleton.mp hy
      exact compLook_upds (by rfl) (by rfl)
  · match i, hy with
    | 0, hy =>
      obtain rfl := Option.some.inj hy
      obtain ⟨rfl, rfl⟩ := hJ
      refine TURNL.grow (K' := AtNew "p" dP) (EVN.clsMeth (C := 306) (p := 295) (f := 293) (rest := [.bool false]) (mc := .type "type") (names := ["cls", "name", "ca", "kw_only"]) (ds := [.val (.ref 306), .str "p", .inst caC (sEs (caEs dP)), .val (.bool false)]) [] X0 (EV.gk X0) (.cons (EV.name rfl) (.cons (EV.name rfl) (.cons (EV.cmp (EV.name (d := .str "no") rfl) EV.str CMP.neStr) .nil))) (by kernel_rfl) (by kernel_rfl) (by kernel_rfl) (by kernel_rfl) (by kernel_rfl) (by rfl) (BINDS.pos (fun vs h => ?_)) (by decide) (by rfl) (fromCa X (fun L v i => by cases i; rfl))) ?_
      · match vs, h with
        | [a, b, c, d], _ => kernel_rfl
      · rintro d o' ⟨a, D, rfl, rfl⟩
        exact ⟨a, D, rfl, rfl⟩
    | 1, hy =>
      obtain rfl := Option.some.inj hy
      obtain ⟨a1, D1, rfl, rfl⟩ := hJ
      refine TURNL.grow (K' := AtNew "q" dQ) (EVN.clsMeth (C := 306) (p := 295) (f := 293) (rest := [.bool false]) (mc := .type "type") (names := ["cls", "name", "ca", "kw_only"]) (ds := [.val (.ref 306), .str "q", .inst caC (sEs (caEs dQ)), .val (.bool false)]) [] X0 (EV.gk X0) (.cons (EV.name rfl) (.cons (EV.name rfl) (.cons (EV.cmp (EV.name (d := .str "no") rfl) EV.str CMP.neStr) .nil))) (by kernel_rfl) (by kernel_rfl) (by kernel_rfl) (by kernel_rfl) (by kernel_rfl) (by rfl) (BINDS.pos (fun vs h => ?_)) (by decide) (by rfl) (fromCa X (fun L v i => by cases i; rfl))) ?_
      · match vs, h with
        | [a, b, c, d], _ => kernel_rfl
      · rintro d o' ⟨a, D, rfl, rfl⟩
        exact ⟨a1, D1, a, D, rfl, rfl⟩
  · obtain ⟨a1, D1, a2, D2, rfl, rfl⟩ := hJ
    refine EX.perm (own' := OW (.val .none) (.val .none) a1 D1 a2 D2) ?_ (tr_mid X0)
    have := (OW.swap (.val .none) (.val .none) a1 D1 a2 D2).symm
    rw [List.append_nil] at this
    exact this
end
end Mine
end

section -- M9
open PySem PySem.Calls PySem.W PyProof.Rows PySem.SeqAt PySem.MeetsSeq
set_option maxRecDepth 100000
set_option linter.unusedVariables false
namespace Mine
/-- binding, where some of the top's objects are known -/
def BINDST (T : Led) (prog : Program) (w : World) (hk : PD → Int) (H : Heap) (fd : FuncData) (ps : List PD) (ks : List (Str × PD)) (names : List Str) (ds : List PD) : Prop :=
  ∀ (A : Around) (s : Shared) (L : Led) (vs : List Value) (kvs : List (Str × Value)), (∀ a o, T a o → L a o) → Inv H s.heap → Holds H L s.heap → IsAll hk L vs ps → IsAll hk L (kvs.map (·.2)) (ks.map (·.2)) → kvs.map (·.1) = ks.map (·.1) →
    wpAny (model prog w) A (bindArgs fd ⟨vs, kvs⟩) (fun b s' => Pure H s s' ∧ b.map (·.1) = names ∧ IsAll hk (L.or (Fresh H s.heap s'.heap)) (b.map (·.2)) ds) (fun _ _ => False) s
/-- a call that hands out a datum and new own objects, where some of the top's objects are known -/
def FNOT (T : Led) (prog : Program) (w : World) (hk : PD → Int) (H : Heap) (n : Nat) (f : PD) (ps : List PD) (ks : List (Str × PD)) (K : PD → Own → Prop) : Prop :=
  ∀ (A : Around) (s : Shared) (L : Led) (fv : Value) (vs : List Value) (kvs : List (Str × Value)), (∀ a o, T a o → L a o) → Ok n A → Inv H s.heap → Holds H L s.heap → Is hk L fv f → IsAll hk L vs ps → IsAll hk L (kvs.map (·.2)) (ks.map (·.2)) → kvs.map (·.1) = ks.map (·.1) →
    wpAny (model prog w) A (call fv vs kvs) (PostN hk H L s K) (fun _ _ => False) s
section
variable {prog : Program} {w : World} {H : Heap} {hk : PD → Int} {n m : Nat} {F : Fm} {wc : List Str} {look : Look} {own own' : Own} {A : Around} {B : Bs} {s s' s₁ : Shared} {L L' L₂ Lw T : Led} {env : Env} {E : Value → Shared → Prop} {K : Frag} {G : Goal}
theorem BINDST.peek {fd : FuncData} {ps : List PD} {ks : List (Str × PD)} {names : List Str} {ds : List PD} {R : List Value → List Value → List Value} (X : KOk K H)
    (h1 : ∀ vs us : List Value, vs.length = ps.length → us.length = ks.length → PySem.W.peek K ⟨prog, w.params⟩ (bindArgs fd ⟨vs, (ks.map (·.1)).zip us⟩) = some (names.zip (R vs us)))
    (hR : ∀ L vs us, (∀ a o, T a o → L a o) → IsAll hk L vs ps → IsAll hk L us (ks.map (·.2)) → IsAll hk L (R vs us) ds) (hl : names.length = ds.length) : BINDST T prog w hk H fd ps ks names ds := fun A s L vs kvs hT inv led i1 i2 i3 => by
  have e1 := i1.length
  have e2 := i2.length
  rw [List.length_map, List.length_map] at e2
  have e3 : kvs = (ks.map (·.1)).zip (kvs.map (·.2)) := by rw [← i3, zip_fst_snd]
  have e4 := h1 vs (kvs.map (·.2)) e1 (by rw [List.length_map]; exact e2)
  rw [← e3] at e4
  have iR := hR L vs _ hT i1 i2
  have lR := iR.length
  refine (Looks.of_peek (M := model prog w) (X.in inv) e4).here ⟨.refl inv, ?_, ?_⟩
  · rw [List.map_fst_zip]
    rw [lR, hl]; exact Nat.le_refl _
  · rw [List.map_snd_zip (by rw [lR, hl]; exact Nat.le_refl _)]
    exact iR.mono fun _ _ => .inl
theorem FCOT.defK {T : Led} {a : Addr} {ps : List PD} {ks : List (Str × PD)} {names : List Str} {ds : List PD} {K' : PD → Own → Prop} (wc : List Str) (X : Env0 K H) (hok : defOk K a = true) (hb : BINDST T prog w hk H (fdOf K a) ps ks names ds)
    (hn : names.Nodup) (hkind : (names.all fun x => (fdOf K a).scope.names.lookup x == some .local || (fdOf K a).scope.names.lookup x == some .cell) = true)
    (h : EX prog w hk H n ⟨(fdOf K a).scope, some (codeOf (fdOf K a)), .none⟩ wc (fun x => (names.zip ds).lookup x) [] (bodyOf (fdOf K a)) ⟨fun _ _ => False, fun _ _ => False, K'⟩) {vs : List Value} {kvs : List (Str × Value)} (ok : Ok (n + 1) A) (inv : Inv H s.heap) (led : Holds H L s.heap)
    (hT : ∀ a o, T a o → L a o) (i1 : IsAll hk L vs ps) (i2 : IsAll hk L (kvs.map (·.2)) (ks.map (·.2))) (i3 : kvs.map (·.1) = ks.map (·.1)) :
    codeAny (model prog w) A (.call (.ref a) ⟨vs, kvs⟩) (fun r s' => match r with | .ok (.ret v) => PostN hk H L s K' v s' | .ok _ => False | .error _ => False) s := by
  have D := DefAt.ofK X.at_ hok
  obtain ⟨o, ho, hc, hd⟩ := D.obj
  obtain ⟨oc, vc, tc, e1, e2, e3, e4, e5⟩ := D.code
  have hkind' : ∀ x ∈ names, (fdOf K a).scope.names.lookup x = some .local ∨ (fdOf K a).scope.names.lookup x = some .cell := fun x hx => by have := List.all_eq_true.mp hkind x hx; simpa using this
  refine codeAny_call_function ok.room (inv.get ho hc) hd D.co D.gen D.body ⟨_, oc, vc, tc, e1, inv.get e2 e3, e4, e5⟩ ?_
  refine wpAny_mono (hb A.in1 s L vs kvs hT inv led i1 i2 i3) (fun b s₁ hb₁ => ?_) fun _ _ f => f.elim
  obtain ⟨q, hbn, hbi⟩ := hb₁
  rw [D.clo]
  refine wpAny_newFunctionEnv_cells D.kind (fun x hx => ?_) fun env he s' ic => ⟨?_, codeAny_func ?_⟩
  · have hxn : x.1 ∈ names := hbn ▸ List.mem_map.mpr ⟨x, hx, rfl⟩
    refine (hkind' _ hxn).imp id fun e => ⟨e, cellsFrom_has _ _ _ _ (.inl (mem_of_lookup e))⟩
  · obtain ⟨h', tk, rfl, hkp⟩ := ic.done
    exact q.inv.lim.keeps hkp
  · have st := FN.begin (q := Option.none) (wc := wc) D.kind D.free D.glob D.blt e1 q.inv ((led.keep q.keep).or .fresh) hbn hbi hn hkind' (by subst he; exact ⟨⟨rfl, rfl, rfl, rfl, rfl⟩, rfl⟩) ic (fun z e => nomatch e)
    refine wpAny_mono (h (A.deeper env) _ _ _ env (ok.deeper env) st) (fun f s₂ e => ?_) fun _ _ f => f.elim
    cases f with
    | next => obtain ⟨_, _, _, e, _⟩ := e; exact e.elim
    | cont => obtain ⟨_, _, _, e, _⟩ := e; exact e.elim
    | brk => exact e.elim
    | ret v =>
      obtain ⟨l, o, L', d, hK, st3, i⟩ := e
      refine ⟨d, o, L', hK, q.trans (st3.pure.pure fun _ e => e.elim), i, fun a ob e => st3.sub _ _ (.inl e), st3.pre.led, fun a ob e => ?_, fun p hp => ?_, st3.nodup⟩
      · rcases st3.base a ob e with (e | e) | e | e
        · exact .inl e
        · exact .inr e.1
        · exact .inr (q.keep.none e)
        · exact e.elim
      · obtain ⟨a, b, c, _⟩ := st3.ownAt p hp
        exact ⟨a, b.elim (fun e => q.keep.none e) False.elim, c⟩
theorem FNOT.defK {a : Addr} {ps : List PD} {ks : List (Str × PD)} {names : List Str} {ds : List PD} {K' : PD → Own → Prop} (wc : List Str) (X : Env0 K H) (hok : defOk K a = true) (hb : BINDST T prog w hk H (fdOf K a) ps ks names ds)
    (hn : names.Nodup) (hkind : (names.all fun x => (fdOf K a).scope.names.lookup x == some .local || (fdOf K a).scope.names.lookup x == some .cell) = true)
    (h : EX prog w hk H n ⟨(fdOf K a).scope, some (codeOf (fdOf K a)), .none⟩ wc (fun x => (names.zip ds).lookup x) [] (bodyOf (fdOf K a)) ⟨fun _ _ => False, fun _ _ => False, K'⟩) : FNOT T prog w hk H (n + 1) (.val (.ref a)) ps ks K' := fun A s L fv vs kvs hT ok inv led iv i1 i2 i3 => by
  cases iv
  exact wpAny_call (codeAny_mono (FCOT.defK wc X hok hb hn hkind h ok inv led hT i1 i2 i3) fun r s' e => e)
/-- a tuple taken apart into an own attribute and two names -/
theorem EX.unpackA {x y1 y2 : Str} {px apos p1 p2 tpos pos : Pos} {kk : Nat} {name : Str} {e : Expr} {a C D : Addr} {d1 d2 d3 : PD} {xs : List (Str × PD)} {rest : List Stmt} (X : Env0 K H) (hx : look x = some (.val (.ref a))) (h : EVO prog w (hkW w) H n F wc look ((D, .dct (sEs xs)) :: (a, .ins C D) :: own) e (.tup [d1, d2, d3])) (hC : setOk K C name = true)
    (k : EX prog w (hkW w) H n F wc (upd (upd look y1 d2) y2 d3) ((D, .dct (sEs (putS name d1 xs))) :: (a, .ins C D) :: own) rest G) (hz : xs.length ≤ 900 := by exact Nat.le_of_ble_eq_true rfl)
    (h1 : F.sc.names.lookup y1 = some .local := by rfl) (h2 : F.sc.names.lookup y2 = some .local := by rfl)
    (hs : ∀ env, swapsWithSole [.Tuple [.Attribute (.Name x px) name apos, .Name y1 p1, .Name y2 p2] kk tpos] e pos.line env = Pure.pure false := by intro _; rfl) (hw : ∀ env, swappedStores [.Tuple [.Attribute (.Name x px) name apos, .Name y1 p1, .Name y2 p2] kk tpos] e env = Pure.pure none := by intro _; rfl) (hdb : (x == ("__debug__" : Str)) = false := by rfl) :
    EX prog w (hkW w) H n F wc look ((D, .dct (sEs xs)) :: (a, .ins C D) :: own) (.Assign [.Tuple [.Attribute (.Name x px) name apos, .Name y1 p1, .Name y2 p2] kk tpos] e pos :: rest) G := .step fun A B s L env ok st =>
  Assign_Tuple (wpAny_mono (h A B s L env ok st) (fun v s' e => by
    obtain ⟨q, i⟩ := e
    obtain ⟨T, vals, rfl, ht, iv⟩ := (st.step q).tuple i
    obtain ⟨vals⟩ := vals
    obtain ⟨u1, u2, u3, eu, j1, j2, j3⟩ := IsAll.three iv
    have eu : vals = [u1, u2, u3] := eu
    subst eu
    refine wpAny_assign_Tuple ok.handled ht rfl rfl fun h' he => ?_
    have st1 := st.step q
    have q1 : Pure H s' { s' with heap := h' } := .all (t := s'.toks) st1.pre.inv fun b o e => he b o (Nat.ne_of_lt (Heap.lt_size e)) e
    have st2 := st1.step q1
    have m1 := (j1.mono (M := _) fun a o e => (Or.inl e : ((L.or (Fresh H s.heap s'.heap)).or (Fresh H s'.heap h')) a o))
    have m2 := (j2.mono (M := _) fun a o e => (Or.inl e : ((L.or (Fresh H s.heap s'.heap)).or (Fresh H s'.heap h')) a o))
    have m3 := (j3.mono (M := _) fun a o e => (Or.inl e : ((L.or (Fresh H s.heap s'.heap)).or (Fresh H s'.heap h')) a o))
    refine assignInOrder_cons ?_
    show wpAny _ _ (PySem.assign (.Attribute (.Name x px) name apos) env u1) _ _ _
    rw [assign_Attribute]
    refine wpAny_bind (wpAny_holding ((EV.name (prog := prog) (w := w) (n := n) hx hdb).use ok st2.pre fun o s₂ q₂ i₂ p₂ => ?_))
    cases i₂
    refine wpAny_bind (wpAny_standAt (wpAny_bind (wpAny_holding (St.setAttr X hC (st2.step q₂) (m1.mono fun _ _ => .inl) hz fun s₃ st₃ => ?_))))
    refine wpAny_release ?_
    refine assignInOrder_cons (wpAny_assign_Name (st₃.store (m2.mono fun _ _ => .inl) (.inl h1) fun s₄ st₄ => ?_))
    refine assignInOrder_cons (wpAny_assign_Name (st₄.store (m3.mono fun _ _ => .inl) (.inl h2) fun s₅ st₅ => ?_))
    exact wpAny_assignInOrder_none ⟨_, _, _, k, st₅⟩) fun _ _ f => f) (hs env) (hw env)
end
section
variable {w : World} {H : Heap} {n : Nat} {k : Addr} {u v : PD} {F : Fm} {wc : List Str} {look : Look} {own : Own} {hk : PD → Int} {G : Goal} {L : Led}
abbrev pqT : PD := .tup [.attr "p", .attr "q"]
abbrev pqL : PD := .list [.attr "p", .attr "q"]
theorem Is.toKind {x : Addr} (i : Is hk L (.ref x) (.inst kindC (sEs (kdEs x pqT pqL pqL)))) : KindAt L x := by
  cases i with
  | inst h1 h2 =>
    cases h2 with
    | @dict dx o ds ep _ g1 g2 g3 g4 =>
      have eo : o = dictOf ds.toList ep := by
        obtain ⟨oc, od, oda, osl⟩ := o
        obtain ⟨e1, e2, e3⟩ := g2
        dsimp only at e1 e2 e3 g3
        subst e1 e2 e3 g3
        simp
      obtain ⟨v1, f1, j1⟩ := getL_some (name := "mro") (r := .list [.val (.ref x)]) g4 (by rfl)
      obtain ⟨v2, f2, j2⟩ := getL_some (name := "attrs") (r := pqT) g4 (by rfl)
      obtain ⟨v3, f3, j3⟩ := getL_some (name := "eq_attrs") (r := pqL) g4 (by rfl)
      have f4 := getL_none (name := "eq_of") g4 (by rfl)
      cases j1 with
      | @list ma mo mv mn _ a1 a2 a3 a4 =>
      cases j2 with
      | @tup aa ao av an _ b1 b2 b3 b4 =>
      cases j3 with
      | @list ea eob ev en _ c1 c2 c3 c4 =>
      obtain ⟨mv⟩ := mv
      obtain ⟨av⟩ := av
      obtain ⟨ev⟩ := ev
      obtain ⟨m1, em, k1⟩ := IsAll.one1 a4
      obtain ⟨p1, p2, ep1, k2, k3⟩ := IsAll.two b4
      obtain ⟨q1, q2, eq1, k4, k5⟩ := IsAll.two c4
      have em : mv = [m1] := em
      have ep1 : av = [p1, p2] := ep1
      have eq1 : ev = [q1, q2] := eq1
      subst em ep1 eq1
      cases k1
      cases k2 with | attr z1 =>
      cases k3 with | attr z2 =>
      cases k4 with | attr z3 =>
      cases k5 with | attr z4 =>
      exact ⟨_, ds.toList, ep, ma, mo, mn, aa, ao, an, ea, eob, en, _, _, _, _, h1, eo ▸ g1, ⟨f1, a1, a2, a3⟩, ⟨f2, b1, b2, b3⟩, ⟨f3, c1, c2, c3⟩, f4, z1, z2, z3, z4⟩
end
end Mine
end

section -- M10
open PySem PySem.Calls PySem.W PyProof.Rows PySem.SeqAt PySem.MeetsSeq
set_option maxRecDepth 100000
set_option linter.unusedVariables false
namespace Mine
section
variable {prog : Program} {w : World} {H : Heap} {hk : PD → Int} {n m : Nat} {F : Fm} {wc : List Str} {look : Look} {own own' : Own} {G : Goal} {L M T : Led}
/-- the kind is made; from now on it stands -/
theorem EX.freezeK {ss : List Stmt} {y : Str} {a D : Addr} (hx : look y = some (.val (.ref a))) (h : EX prog w hk H n F wc (upd look y (.kind a)) own ss G) : EX prog w hk H n F wc look ((D, .dct (sEs (kdEs a pqT pqL pqL))) :: (a, .ins kindC D) :: own) ss G := fun A B s L env ok st => by
  obtain ⟨L', st', i, _⟩ := st.freezeInst
  refine h A B s L' env ok { st' with pre := { st'.pre with view := fun z d' e => ?_ } }
  unfold upd at e
  by_cases hz : z = y
  · rw [if_pos hz] at e; cases e
    subst hz
    obtain ⟨v, r, iv⟩ := st'.pre.view _ _ hx
    cases iv
    exact ⟨_, r, .kind i.toKind⟩
  · rw [if_neg hz] at e; exact st'.pre.view z d' e
/-- an empty row among the known bears nothing of an attribute, of a kind -/
theorem AttrAt.strip (hs : ∀ a o, L a o → M a o ∨ T a o) (hE : ∀ a o, T a o → ∃ m, o.data = .seq #[] m) {a : Addr} {x : Str} (h : AttrAt L a x) : AttrAt M a x := by
  obtain ⟨ad, es, n, t1, t2, h1, h2, r⟩ := h
  refine ⟨ad, es, n, t1, t2, (hs _ _ h1).resolve_right fun t => ?_, (hs _ _ h2).resolve_right fun t => ?_, r⟩
  · obtain ⟨m, e⟩ := hE _ _ t; cases e
  · obtain ⟨m, e⟩ := hE _ _ t; cases e
theorem KindAt.strip (hs : ∀ a o, L a o → M a o ∨ T a o) (hE : ∀ a o, T a o → ∃ m, o.data = .seq #[] m) {k : Addr} (h : KindAt L k) : KindAt M k := by
  obtain ⟨kd, es, n, ma, mo, mn, aa, ao, an, ea, eo, en, a1, a2, a3, a4, h1, h2, ⟨m1, m2, m3, m4⟩, ⟨b1, b2, b3, b4⟩, ⟨c1, c2, c3, c4⟩, e, x1, x2, x3, x4⟩ := h
  have st : ∀ {a o}, L a o → (∀ m, o.data ≠ .seq #[] m) → M a o := fun g ne => (hs _ _ g).resolve_right fun t => by
    obtain ⟨m, e⟩ := hE _ _ t; exact ne m e
  refine ⟨kd, es, n, ma, mo, mn, aa, ao, an, ea, eo, en, a1, a2, a3, a4, st h1 ?_, st h2 ?_, ⟨m1, st m2 ?_, m3, m4⟩, ⟨b1, st b2 ?_, b3, b4⟩, ⟨c1, st c2 ?_, c3, c4⟩, e, x1.strip hs hE, x2.strip hs hE, x3.strip hs hE, x4.strip hs hE⟩
  · intro m e; cases e
  · intro m e; cases e
  · intro m e; rw [m4] at e; cases e
  · intro m e; rw [b4] at e; cases e
  · intro m e; rw [c4] at e; cases e
theorem FNOT.toKind {f : PD} {ps : List PD} {ks : List (Str × PD)} (h : FNOT T prog w hk H n f ps ks (fun d o => ∃ k, d = .kind k ∧ o = [])) (hT : ∀ h, Inv H h → Holds H T h) (hE : ∀ a o, T a o → ∃ m, o.data = .seq #[] m) : FNO prog w hk H n f ps ks (fun d o => ∃ k, d = .kind k ∧ o = []) := fun A s L fv vs kvs ok inv led iv i1 i2 i3 => by
  refine wpAny_mono (h A s (L.or T) fv vs kvs (fun _ _ => .inr) ok inv (led.or (hT _ inv)) (iv.mono fun _ _ => .inl) (i1.mono fun _ _ => .inl) (i2.mono fun _ _ => .inl) i3) (fun v s' e => ?_) fun _ _ f => f
  obtain ⟨d, o, L', ⟨k, rfl, rfl⟩, q, i, sub, ho, hb, hO, nd⟩ := e
  refine ⟨.kind k, [], fun a ob => L a ob ∨ (L' a ob ∧ s.heap.get? a = none), ⟨k, rfl, rfl⟩, q, ?_, fun _ _ => .inl, fun a ob e => ?_, fun a ob e => e.imp id And.right, (fun p hp => nomatch hp), List.nodup_nil⟩
  · cases i with
    | kind hk => exact .kind (hk.strip (T := T) (fun a ob e => by
        rcases hb a ob e with (z | z) | z
        · exact .inl (.inl z)
        · exact .inr z
        · exact .inl (.inr ⟨e, z⟩)) hE)
  · rcases e with e | e
    · exact ho _ _ (sub _ _ (.inl e))
    · exact ho _ _ e.1
end
section
variable {w : World} {H : Heap} {n : Nat} {k : Addr} {u v : PD} {F : Fm} {wc : List Str} {look : Look} {own : Own} {hk : PD → Int} {G : Goal} {L : Led}
theorem at_eqF (X : Env0 (KK w) H) {y : Str} : AT prg w hk H (.attr y) "eq" (.val (.bool true)) := AT.attrOf X.toKOk (by kernel_rfl) (by kernel_rfl) (a := _) (by rfl) (by kernel_rfl) fun L x h => by
  obtain ⟨ad, es, n, t1, t2, h1, h2, e1, e2, e3, e4, e5, e6, e7, e8, r⟩ := h
  exact ⟨ad, es, n, _, h1, h2, e8, rfl, .val _⟩
theorem at_orderF (X : Env0 (KK w) H) {y : Str} : AT prg w hk H (.attr y) "order" (.val (.bool true)) := AT.attrOf X.toKOk (by kernel_rfl) (by kernel_rfl) (a := _) (by rfl) (by kernel_rfl) fun L x h => by
  obtain ⟨ad, es, n, t1, t2, h1, h2, e1, e2, e3, e4, e5, e6, e7, e8, e9, r⟩ := h
  exact ⟨ad, es, n, _, h1, h2, e9, rfl, .val _⟩
noncomputable abbrev mcF (w : World) : Fm := ⟨(fdOf (KK w) 403).scope, some (codeOf (fdOf (KK w) 403)), Option.none⟩
abbrev mcNames : List Str := ["name", "attrs", "bases", "cmp", "eq", "order", "kw_only", "force_kw_only", "collect_by_mro", "field_transformer"]
abbrev mcDs : List PD := [.str "Drawn", trThese, .tup [], .val .none, .val .none, .val .none, .val (.bool false), .val (.bool true), .val (.bool false), .val .none]
/-- what make_class hands out -/
abbrev NewKind : Goal := ⟨fun _ _ => False, fun _ _ => False, fun d o => ∃ k, d = .kind k ∧ o = []⟩
theorem mc_tail (X : Env0 (KK w) H) {l : Look} {x D : Addr} (hm : l "made" = some (.val (.ref x))) (he : l "eq" = some (.val (.bool true))) (ho : l "order" = some (.val (.bool true))) : EX prg w (hkW w) H (n + 1) (mcF w) [] l [(D, .dct (sEs (kdEs x pqT (.val .none) (.val .none)))), (x, .ins kindC D)] ((bodyOf (fdOf (KK w) 403)).drop 5) NewKind := by
  refine EX.ifT (ET.val (EV.name he) (.bool _)) ?_
  refine EX.setAttrO X hm (d := pqL) (EVO.viewI (x := "made") (b := true) hm (EVO.pure (EV.listComp (f := aLook) (g := fun x => match x with | .one d => some d | _ => Option.none) (items := pqItems) (IT.tup (ds := [.attr "p", .attr "q"]) (EV.attr (EV.name rfl) (AT.inst (i := 0) X.toKOk (by kernel_rfl) (by kernel_rfl) (a := Option.none) (by kernel_rfl) (by rfl) (by rfl) (fun L v i => by cases i; rfl)))) (sz rfl) (.of (by rfl)) (pq_mem fun y _ => TGI.one TG.name) (pq_mem fun y _ => compLook_upd (by rfl)) (pq_mem fun y _ => ⟨ETS.one (ET.val (EV.attr (EV.name rfl) (at_eqF X)) (.bool _)), EV.name rfl⟩))) (by rfl)) (by kernel_rfl) (EX.nil ?_)
  refine EX.ifT (ET.val (EV.name ho) (.bool _)) ?_
  refine EX.setAttrO X hm (d := pqL) (EVO.viewI (x := "made") (b := true) hm (EVO.pure (EV.listComp (f := aLook) (g := fun x => match x with | .one d => some d | _ => Option.none) (items := pqItems) (IT.tup (ds := [.attr "p", .attr "q"]) (EV.attr (EV.name rfl) (AT.inst (i := 0) X.toKOk (by kernel_rfl) (by kernel_rfl) (a := Option.none) (by kernel_rfl) (by rfl) (by rfl) (fun L v i => by cases i; rfl)))) (sz rfl) (.of (by rfl)) (pq_mem fun y _ => TGI.one TG.name) (pq_mem fun y _ => compLook_upd (by rfl)) (pq_mem fun y _ => ⟨ETS.one (ET.val (EV.attr (EV.name rfl) (at_orderF X)) (.bool _)), EV.name rfl⟩))) (by rfl)) (by kernel_rfl) (EX.nil ?_)
  exact EX.freezeK hm (EX.ret (EV.name rfl) ⟨x, rfl, rfl⟩)
theorem mc_body (X : Env2 w H) : EX prg w (hkW w) H (n + 6) (mcF w) [] (fun z => (mcNames.zip mcDs).lookup z) [] (bodyOf (fdOf (KK w) 403)) NewKind := by
  have X0 := X.toEnv0
  refine EX.ifT (ET.val (d := .val (.bool true)) (EV.callF (EV.bk X0) (.cons (EV.name rfl) (.cons (EV.bk X0) .nil)) .nil KP.blt (FN.isi1 X0.toKOk rfl (by kernel_rfl))) (.bool _)) ?_
  refine EX.assign (EV.name rfl) (EX.nil ?_)
  refine EX.unpack (xs := [("eq", _), ("order", _)]) (ds := [.val (.bool true), .val (.bool true)]) (EV.callF (EV.gk X0) (.cons (EV.name rfl) (.cons (EV.name rfl) (.cons (EV.name rfl) (.cons EV.bool .nil)))) .nil (KP.Kk X0) (eqOrdCls X0)) ?_ ?_
  · refine EX.assignN (EVN.call (EV.gk X0) (.cons (EV.name rfl) (.cons (EV.name rfl) .nil)) .nil (KP.cls X0.toKOk (by kernel_rfl)) (kind_new X0)) fun d o h => ?_
    obtain ⟨x, D, rfl, rfl⟩ := h
    refine EX.assign (d1 := .str "no") (EV.ifT (ET.not (b := false) (ET.val (EV.name rfl) (.bool _))) EV.str) ?_
    refine EX.unpackA X0 rfl (EVO.viewI (x := "made") (b := true) rfl (EVO.pure (EV.callF (EV.gk X0) (.cons (EV.name rfl) (.cons (EV.name rfl) (.cons (EV.name rfl) (.cons (EV.name rfl) (.cons (EV.name rfl) .nil))))) .nil (KP.Kk X0) (transform_attrs X))) (by rfl)) (by kernel_rfl) ?_
    exact mc_tail X0 rfl rfl rfl
  · intro z hz; refine .inl ?_
    simp only [List.mem_cons, List.not_mem_nil, or_false] at hz
    rcases hz with rfl | rfl <;> rfl
end
end Mine
end

section -- R5
open PySem PySem.Calls PySem.W PyProof.Rows PySem.SeqAt PySem.MeetsSeq
set_option maxRecDepth 100000
set_option linter.unusedVariables false
namespace Mine
section
variable {prog : Program} {w : World} {H : Heap} {hk : PD → Int} {n : Nat}
theorem BIN.sub {x y : Int} : BIN prog w hk H .Sub (.int x) (.int y) (.int (x - y)) := fun A s L u v _ inv _ i j => by
  cases i; cases j; exact P.sub_int (Pure.post (.toks inv _) (.int _ _))
theorem BINZ.mul2 {c : Nat} : ∃ y, BINZ prog w hk H .Mult (.str ⟨#[c]⟩) (.int 2) (.strz y) := ⟨_, fun A s L u v _ ht inv _ i j => by
  cases i; cases j
  refine P.mul_str (by decide) (fun _ _ => by show ¬ ((1 : Int) > _); decide) (fun _ _ => rfl) ?_
  rw [if_neg (by decide), if_neg (by show ¬ ((false || (1 == 0)) = true); decide)]
  exact ⟨Nat.le_of_ble_eq_true rfl, Pure.post (.toks inv _) (.strz _ _ ht)⟩⟩
theorem GI.str1 {x : Str} {k c : Nat} (h1 : k < x.cps.size) (h : x.cps[k]? = some c) (hk : (k : Int) < 2 ^ 62 := by decide) : GI prog w H n (.str x) (.int k) (.str ⟨#[c]⟩) := fun A s L o v ok inv led io iv => by
  cases io; cases iv
  refine ⟨⟨"str", _, typeIs_str _ _ _, slot_str_getitem.lookup⟩, ?_⟩
  refine PyProof.Rows.getItem_str ?_ ?_ (Pure.post (.toks inv _) (.str _ _))
  · rw [Bool.or_eq_false_iff]; exact ⟨decide_eq_false (by omega), decide_eq_false (by omega)⟩
  · have : seqIndex? (k : Int) x.length = some k := by
      unfold seqIndex?
      have h1' : k < x.length := h1
      have h2 : ¬ ((k : Int) < 0) := by omega
      simp [h2]
      omega
    rw [this]; exact h
theorem CMP.lt' {x y : Int} {b : Bool} (h : decide (x < y) = b) : CMP prog w hk H n .Lt (.int x) (.int y) b := h ▸ CMP.ltInt
theorem CMP.gt' {x y : Int} {b : Bool} (h : decide (x > y) = b) : CMP prog w hk H n .Gt (.int x) (.int y) b := h ▸ CMP.gtInt
theorem CMP.eq' {x y : Int} {b : Bool} (h : (x == y) = b) : CMP prog w hk H n .Eq (.int x) (.int y) b := h ▸ CMP.eqInt
theorem CMP.ne' {x y : Int} {b : Bool} (h : (x != y) = b) : CMP prog w hk H n .NotEq (.int x) (.int y) b := h ▸ CMP.neInt
end
def intL (es : List Int) : List PD := es.map .int
/-- what a drawing leaves -/
def DrK (dp n : Nat) (d : PD) (ys : List PD) : Prop := ∃ t es, d = drawP t ∧ WT t ∧ ht t ≤ dp ∧ ys = intL es ∧ es.length ≤ n
section
variable {w : World} {H : Heap} {n : Nat} {k : Addr} {u v : PD} {F : Fm} {look : Look} {hk : PD → Int}
noncomputable abbrev drF (w : World) : Fm := ⟨(fdOf (KK w) 495).scope, some (codeOf (fdOf (KK w) 495)), .none⟩
abbrev drWc : List Str := ["draws", "deep", "draw"]
theorem fm3 (x : Int) : ∃ j : Nat, j < 3 ∧ x.fmod 3 = (j : Int) := ⟨(x.fmod 3).toNat, by have h1 := Int.fmod_nonneg_of_pos x (b := 3) (by decide); have h2 := Int.fmod_lt_of_pos x (b := 3) (by decide); omega, by have h1 := Int.fmod_nonneg_of_pos x (b := 3) (by decide); omega⟩
theorem fm7 (x : Int) : ∃ j : Nat, j < 7 ∧ x.fmod 7 = (j : Int) := ⟨(x.fmod 7).toNat, by have h1 := Int.fmod_nonneg_of_pos x (b := 7) (by decide); have h2 := Int.fmod_lt_of_pos x (b := 7) (by decide); omega, by have h1 := Int.fmod_nonneg_of_pos x (b := 7) (by decide); omega⟩
/-- draw // 7 % 3 -/
theorem ev_m3 {x : Int} {p1 p2 p3 p4 p5 : Pos} {k1 k2 : Nat} {j : Nat} (hx : look "draw" = some (.int x)) (hj : (x.fdiv 7).fmod 3 = (j : Int)) : EV prg w (hkW w) H n F look (.BinOp (.BinOp (.Name "draw" p1) .FloorDiv (.Constant (.int 7) k1 p2) p3) .Mod (.Constant (.int 3) k2 p4) p5) (.int j) :=
  hj ▸ EV.bin (EV.bin (EV.name hx) EV.int BIN.fdiv7) EV.int (BIN.mod (by decide))
/-- a leaf -/
theorem drawn_leaf {l : Look} {x : Int} {kd : Nat} {dp N : Nat} {D : Addr} {es : List Int} (h1 : l "kind" = some (.int kd)) (h2 : l "draw" = some (.int x)) (hk : kd < 3) (hes : es.length ≤ N) :
    EX prg w (hkW w) H n (drF w) drWc l [(D, .lst (intL es))] ((bodyOf (fdOf (KK w) 495)).drop 2) ⟨fun _ _ => False, fun _ _ => False, fun d o => ∃ ys, o = [(D, .lst ys)] ∧ DrK dp N d ys⟩ := by
  refine EX.ifT (ET.cmp (EV.name h1) EV.int (CMP.lt' (decide_eq_true (by omega)))) ?_
  match kd, hk with
  | 0, _ =>
    refine EX.ret (d := drawP (.n ((x.fdiv 7).fmod 90))) (EV.ifT (ET.cmp (EV.name h1) EV.int (CMP.eq' (by rfl))) ?_) ⟨_, rfl, _, es, rfl, trivial, by simp [ht], rfl, hes⟩
    exact EV.tup (.cons EV.str (.cons (EV.binz (EV.bin (EV.name h2) EV.int BIN.fdiv7) (BINZ.mod (by decide))) .nil)) (sz rfl)
  | 1, _ =>
    obtain ⟨j, hj, ej⟩ := fm3 (x.fdiv 7)
    obtain ⟨c, hc, hc'⟩ : ∃ c, ("abc" : Str).cps[j]? = some c ∧ j < ("abc" : Str).cps.size := by
      match j, hj with
      | 0, _ => exact ⟨_, rfl, by decide⟩
      | 1, _ => exact ⟨_, rfl, by decide⟩
      | 2, _ => exact ⟨_, rfl, by decide⟩
    obtain ⟨y, hy⟩ := BINZ.mul2 (prog := prg) (w := w) (hk := hkW w) (H := H) (c := c)
    refine EX.ret (d := drawP (.t y)) (EV.ifF (ET.cmp (EV.name h1) EV.int (CMP.eq' (by rfl))) (EV.ifT (ET.cmp (EV.name h1) EV.int (CMP.eq' (by rfl))) ?_)) ⟨_, rfl, _, es, rfl, trivial, by simp [ht], rfl, hes⟩
    exact EV.tup (.cons EV.str (.cons (EV.binz (EV.subAny (d := .str "abc") EV.str (ev_m3 h2 ej) (GI.str1 hc' hc (by omega))) hy) .nil)) (sz rfl)
  | 2, _ =>
    refine EX.ret (d := drawP .z) (EV.ifF (ET.cmp (EV.name h1) EV.int (CMP.eq' (by rfl))) (EV.ifF (ET.cmp (EV.name h1) EV.int (CMP.eq' (by rfl))) ?_)) ⟨_, rfl, _, es, rfl, trivial, by simp [ht], rfl, hes⟩
    exact EV.tup (.cons EV.str (.cons EV.none .nil))
end
end Mine
end

section -- R6
open PySem PySem.Calls PySem.W PyProof.Rows PySem.SeqAt PySem.MeetsSeq
set_option maxRecDepth 100000
set_option linter.unusedVariables false
namespace Mine
section
variable {w : World} {H : Heap} {n : Nat} {k : Addr} {u v : PD} {F : Fm} {look : Look} {hk : PD → Int}
/-- the parts drawn so far -/
def DrJ (dp N : Nat) (D : Addr) (i : Nat) (ys : List PD) (o : Own) : Prop := ∃ ts es, ys = drawL ts ∧ ts.length = i ∧ (∀ t ∈ ts, WT t ∧ ht t ≤ dp) ∧ o = [(D, .lst (intL es))] ∧ es.length ≤ N
theorem drawL_snoc (ts : List T) (t : T) : drawL (ts ++ [t]) = drawL ts ++ [drawP t] := by rw [drawL_map, drawL_map, List.map_append]; rfl
theorem drawn_turn (X : Env0 (KK w) H) {dp N : Nat} {D : Addr} {i : Nat} {ys : List PD} {o : Own} {l : Look} (h1 : l "draws" = some (.val (.ref D))) (h2 : l "deep" = some (.int ((dp + 1 : Nat) : Int)))
    (IH : ∀ ds : List Int, ds.length ≤ N → FNX prg w (hkW w) H n (.val (.ref 495)) D (intL ds) [.val (.ref D), .int dp] (DrK dp N)) (hJ : DrJ dp N D i ys o) {scope : Scope} {p1 p2 p3 p4 p5 pos : Pos} {kk : Nat}
    (hg : (scope.names.lookup ("_law_drawn" : Str) == some .globalImplicit) = true) (hg' : ((F.comp scope).sc.names.lookup ("_law_drawn" : Str) == some .globalImplicit) = true) :
    TURNL prg w (hkW w) H n (F.comp scope) l o [] (.Call (.Name "_law_drawn" p1) [.Name "draws" p2, .BinOp (.Name "deep" p3) .Sub (.Constant (.int 1) kk p4) p5] [] pos) fun r o' => DrJ dp N D (i + 1) (ys ++ r.toList) o' := by
  obtain ⟨ts, es, rfl, hl, ht, rfl, hes⟩ := hJ
  refine TURNL.change fun D0 x => ?_
  refine EVX.perm (List.Perm.swap _ _ _) (EVX.permK ?_)
  refine EVX.call (ps := [.val (.ref D), .int dp]) (EV.gk X (hx := hg')) (.cons (EV.name h1) (.cons ?_ .nil)) (KP.Kk X) (IH es hes) fun d ys' hK => ?_
  · have e : (((dp + 1 : Nat) : Int) - 1) = (dp : Int) := by omega
    exact e ▸ EV.bin (EV.name h2) EV.int BIN.sub
  · obtain ⟨t, es', rfl, hw, hh, rfl, hle⟩ := hK
    exact ⟨_, List.Perm.swap _ _ _, _, rfl, ts ++ [t], es', (drawL_snoc ts t).symm, by simp [hl], fun z hz => (List.mem_append.mp hz).elim (ht z) fun e => by rw [List.mem_singleton.mp e]; exact ⟨hw, hh⟩, rfl, hle⟩
/-- a node -/
theorem drawn_node (X : Env0 (KK w) H) {l : Look} {x : Int} {kd : Nat} {dp N : Nat} {D : Addr} {es : List Int} (h1 : l "kind" = some (.int kd)) (h2 : l "draw" = some (.int x)) (h3 : l "draws" = some (.val (.ref D))) (h4 : l "deep" = some (.int ((dp + 1 : Nat) : Int)))
    (hk : 3 ≤ kd) (hk7 : kd < 7) (hes : es.length ≤ N) (IH : ∀ ds : List Int, ds.length ≤ N → FNX prg w (hkW w) H n (.val (.ref 495)) D (intL ds) [.val (.ref D), .int dp] (DrK dp N)) :
    EX prg w (hkW w) H n (drF w) drWc l [(D, .lst (intL es))] ((bodyOf (fdOf (KK w) 495)).drop 2) ⟨fun _ _ => False, fun _ _ => False, fun d o => ∃ ys, o = [(D, .lst ys)] ∧ DrK (dp + 1) N d ys⟩ := by
  refine EX.ifF (ET.cmp (EV.name h1) EV.int (CMP.lt' (decide_eq_false (by omega)))) (EX.nil ?_)
  obtain ⟨j, hj, ej⟩ := fm3 (x.fdiv 7)
  obtain ⟨cn, hcn, hc6, hc5⟩ : ∃ cn : Nat, cn ≤ 2 ∧ (5 < kd → cn = 2) ∧ (¬ 5 < kd → cn = j) := by
    by_cases q : 5 < kd
    · exact ⟨2, by omega, fun _ => rfl, fun h => absurd q h⟩
    · exact ⟨j, by omega, fun h => absurd h q, fun _ => rfl⟩
  refine EX.assign (d1 := .int cn) ?_ ?_
  · by_cases q : 5 < kd
    · obtain rfl := hc6 q
      exact EV.ifT (ET.cmp (EV.name h1) EV.int (CMP.gt' (decide_eq_true (by omega)))) EV.int
    · obtain rfl := hc5 q
      exact EV.ifF (ET.cmp (EV.name h1) EV.int (CMP.gt' (decide_eq_false (by omega)))) (ev_m3 h2 ej)
  obtain ⟨m, hm, hm5, hm'⟩ : ∃ m : Nat, m ≤ 2 ∧ (kd = 5 → m = 2) ∧ (kd ≠ 5 → m = cn) := by
    by_cases q : kd = 5
    · exact ⟨2, by omega, fun _ => rfl, fun h => absurd q h⟩
    · exact ⟨cn, by omega, fun h => absurd h q, fun _ => rfl⟩
  refine EX.assignOwnL (items := rangeI m) (f := fun x l => match x with | .one d => upd l "k" d | _ => l) (DrJ dp N D) (IT.range (m := m) (EV.bk X) ?_ (by omega)) (by simp [rangeI]; exact Nat.le_trans hm (sz rfl)) (.of (by rfl)) (fun i ys o h => ?_) ⟨[], es, rfl, rfl, fun _ h => (nomatch h), rfl, hes⟩ (fun y hy => ?_) (fun y hy => ?_) (fun i y ys o hy hJ => ?_) (fun ys o hJ => ?_)
  · by_cases q : kd = 5
    · obtain rfl := hm5 q
      exact EV.ifF (ET.cmp (EV.name h1) EV.int (CMP.ne' (by subst q; rfl))) EV.int
    · obtain rfl := hm' q
      exact EV.ifT (ET.cmp (EV.name h1) EV.int (CMP.ne' (by simp; omega))) (EV.name rfl)
  · obtain ⟨ts, es', rfl, e, _, rfl, _⟩ := h
    exact ⟨rfl, by rw [drawL_map, List.length_map, e]; exact Nat.le_refl _⟩
  · obtain ⟨d, _, rfl⟩ := List.mem_map.mp hy; exact TGI.one TG.name
  · obtain ⟨d, _, rfl⟩ := List.mem_map.mp hy; exact compLook_upd (by rfl)
  · have hy' := List.mem_of_getElem? hy
    obtain ⟨d, _, rfl⟩ := List.mem_map.mp hy'
    refine drawn_turn X ?_ ?_ IH hJ ?_ ?_
    · exact h3
    · exact h4
    · rfl
    · rfl
  · obtain ⟨ts, es', rfl, hl, hts, rfl, hle⟩ := hJ
    have hl : ts.length = m := by rw [hl]; simp [rangeI]
    have wl : ∀ ts : List T, (∀ t ∈ ts, WT t ∧ ht t ≤ dp) → WTL ts ∧ htL ts ≤ dp := by
      intro ts
      induction ts with
      | nil => intro _; exact ⟨trivial, Nat.zero_le _⟩
      | cons t r ih =>
        intro h
        obtain ⟨a, b⟩ := h t (.head _)
        obtain ⟨c, d⟩ := ih fun z hz => h z (.tail _ hz)
        exact ⟨⟨a, c⟩, Nat.max_le.mpr ⟨b, d⟩⟩
    obtain ⟨w1, w2⟩ := wl ts hts
    have hp : ∀ (F : Fm) (o : Own), True := fun _ _ => trivial
    match kd, hk, hk7 with
    | 3, _, _ =>
      refine EX.ret (d := drawP (.l ts)) (EV.ifT (ET.cmp (EV.name h1) EV.int (CMP.eq' (by rfl))) ?_) ⟨_, rfl, _, es', rfl, ⟨w1, by omega⟩, by rw [ht]; omega, rfl, hle⟩
      exact EV.tup (.cons EV.str (.cons (EV.name rfl) .nil)) (sz rfl)
    | 4, _, _ =>
      refine EX.ret (d := drawP (.u ts)) (EV.ifF (ET.cmp (EV.name h1) EV.int (CMP.eq' (by rfl))) (EV.ifT (ET.cmp (EV.name h1) EV.int (CMP.eq' (by rfl))) ?_)) ⟨_, rfl, _, es', rfl, ⟨w1, by omega⟩, by rw [ht]; omega, rfl, hle⟩
      exact EV.tup (.cons EV.str (.cons (EV.name rfl) .nil)) (sz rfl)
    | 5, _, _ =>
      obtain rfl := hm5 rfl
      match ts, hl, hts with
      | [a, b], _, hts =>
        refine EX.ret (d := drawP (.o a b)) (EV.ifF (ET.cmp (EV.name h1) EV.int (CMP.eq' (by rfl))) (EV.ifF (ET.cmp (EV.name h1) EV.int (CMP.eq' (by rfl))) (EV.ifT (ET.cmp (EV.name h1) EV.int (CMP.eq' (by rfl))) ?_))) ⟨_, rfl, _, es', rfl, ⟨(hts a (.head _)).1, (hts b (.tail _ (.head _))).1⟩, ?_, rfl, hle⟩
        · exact EV.tup (.cons EV.str (.cons (EV.name rfl) .nil)) (sz rfl)
        · rw [ht]; have := (hts a (.head _)).2; have := (hts b (.tail _ (.head _))).2; omega
    | 6, _, _ =>
      obtain rfl := hc6 (by omega)
      obtain rfl := hm' (by omega)
      match ts, hl, hts, w1, w2 with
      | [a, b], _, hts, w1, w2 =>
        obtain ⟨k0, hk0, hkk⟩ : ∃ k0, ([.str "k", xyKey, .int 7] : List PD)[j]? = some k0 ∧ [k0, .str "z"] ∈ KS := by
          match j, hj with
          | 0, _ => exact ⟨_, rfl, by simp [KS]⟩
          | 1, _ => exact ⟨_, rfl, by simp [KS]⟩
          | 2, _ => exact ⟨_, rfl, by simp [KS]⟩
        refine EX.ret (d := drawP (.d [k0, .str "z"] [a, b])) (EV.ifF (ET.cmp (EV.name h1) EV.int (CMP.eq' (by rfl))) (EV.ifF (ET.cmp (EV.name h1) EV.int (CMP.eq' (by rfl))) (EV.ifF (ET.cmp (EV.name h1) EV.int (CMP.eq' (by rfl))) ?_))) ⟨_, rfl, _, es', rfl, ⟨w1, rfl, hkk⟩, ?_, rfl, hle⟩
        · refine EV.tup (.cons EV.str (.cons ?_ .nil)) (sz rfl)
          refine EV.listCompI (rs := keyed [k0, .str "z"] (drawL [a, b])) (f := fun x l => match x with | .tup [i, d] => upds l ["k", "part"] [i, d] | _ => l) (IT.enum (ds := drawL [a, b]) (EV.bk X) (EV.name rfl)) (sz rfl) (.of (by rfl)) rfl (fun y hy => ?_) (fun y hy => ?_) (fun i y r hy hr => ?_)
          · rcases List.mem_cons.mp hy with rfl | hy
            · exact TGI.tup (xs := [("k", _), ("part", _)]) rfl (by intro z hz; simp only [List.mem_cons, List.not_mem_nil, or_false] at hz; rcases hz with rfl | rfl <;> exact .inl rfl)
            · obtain rfl := List.mem_singleton.mp hy
              exact TGI.tup (xs := [("k", _), ("part", _)]) rfl (by intro z hz; simp only [List.mem_cons, List.not_mem_nil, or_false] at hz; rcases hz with rfl | rfl <;> exact .inl rfl)
          · rcases List.mem_cons.mp hy with rfl | hy
            · exact compLook_upds (by rfl) (by rfl)
            · obtain rfl := List.mem_singleton.mp hy
              exact compLook_upds (by rfl) (by rfl)
          · match i, hy, hr with
            | 0, hy, hr =>
              obtain rfl := Option.some.inj hy
              obtain rfl := Option.some.inj hr
              refine EV.tup (.cons (EV.ifT (ET.cmp (EV.name (d := .int 0) rfl) EV.int (CMP.eq' (by rfl))) ?_) (.cons (EV.name rfl) .nil)) (sz rfl)
              refine EV.subAny (d := .list [.str "k", xyKey, .int 7]) (EV.list (.cons EV.str (.cons (EV.tup (.cons EV.str (.cons EV.str .nil)) (sz rfl)) (.cons EV.int .nil))) (sz rfl)) (ev_m3 (x := x) ?_ ej) (GI.list hk0 (by omega))
              exact h2
            | 1, hy, hr =>
              obtain rfl := Option.some.inj hy
              obtain rfl := Option.some.inj hr
              exact EV.tup (.cons (EV.ifF (ET.cmp (EV.name (d := .int 1) rfl) EV.int (CMP.eq' (by rfl))) EV.str) (.cons (EV.name rfl) .nil)) (sz rfl)
        · rw [ht]; omega
end
end Mine
end

section -- R7
open PySem PySem.Calls PySem.W PyProof.Rows PySem.SeqAt PySem.MeetsSeq
set_option maxRecDepth 100000
set_option linter.unusedVariables false
namespace Mine
section
variable {w : World} {H : Heap} {n : Nat} {k : Addr} {u v : PD} {F : Fm} {look : Look} {hk : PD → Int}
theorem DrK.le {dp N N' : Nat} {d : PD} {ys : List PD} (h : DrK dp N d ys) (hn : N ≤ N') : DrK dp N' d ys := by
  obtain ⟨t, es, h1, h2, h3, h4, h5⟩ := h
  exact ⟨t, es, h1, h2, h3, h4, by omega⟩
theorem FNX.weak {prog : Program} {f : PD} {D : Addr} {xs ps : List PD} {K K' : PD → List PD → Prop} (h : FNX prog w hk H n f D xs ps K) (k : ∀ d ys, K d ys → K' d ys) : FNX prog w hk H n f D xs ps K' := fun A s L fv vs ok inv led h1 h2 h3 iv i1 =>
  wpAny_mono (h A s L fv vs ok inv led h1 h2 h3 iv i1) (fun v s' e => by obtain ⟨d, ys, L', hK, r⟩ := e; exact ⟨d, ys, L', k d ys hK, r⟩) fun _ _ f => f
/-- the body from the draw on -/
theorem drawn_rest (X : Env0 (KK w) H) {l : Look} {x : Int} {dp N : Nat} {D : Addr} {es : List Int} (h2 : l "draw" = some (.int x)) (h3 : l "draws" = some (.val (.ref D))) (h4 : l "deep" = some (.int (dp : Int)))
    (hes : es.length ≤ N) (IH : ∀ dp', dp = dp' + 1 → ∀ ds : List Int, ds.length ≤ N → FNX prg w (hkW w) H n (.val (.ref 495)) D (intL ds) [.val (.ref D), .int dp'] (DrK dp' N)) :
    EX prg w (hkW w) H n (drF w) drWc l [(D, .lst (intL es))] ((bodyOf (fdOf (KK w) 495)).drop 1) ⟨fun _ _ => False, fun _ _ => False, fun d o => ∃ ys, o = [(D, .lst ys)] ∧ DrK dp N d ys⟩ := by
  cases dp with
  | zero =>
    obtain ⟨j, hj, ej⟩ := fm3 x
    refine EX.assign (d1 := .int j) (EV.ifF (ET.cmp (EV.name h4) EV.int (CMP.gt' (by rfl))) (ej ▸ EV.bin (EV.name h2) EV.int (BIN.mod (by decide)))) ?_
    exact drawn_leaf rfl h2 hj hes
  | succ dp =>
    obtain ⟨j, hj, ej⟩ := fm7 x
    refine EX.assign (d1 := .int j) (EV.ifT (ET.cmp (EV.name h4) EV.int (CMP.gt' (decide_eq_true (by omega)))) (ej ▸ EV.bin (EV.name h2) EV.int (BIN.mod (by decide)))) ?_
    by_cases q : j < 3
    · exact drawn_leaf rfl h2 q hes
    · exact drawn_node X rfl h2 h3 h4 (by omega) hj hes (IH dp rfl)
theorem drawn_spec (X : Env0 (KK w) H) {D : Addr} : ∀ (dp : Nat) (ds : List Int) (N : Nat), N ≤ 500 → ds.length ≤ N → FNX prg w (hkW w) H (dp + 1) (.val (.ref 495)) D (intL ds) [.val (.ref D), .int dp] (DrK dp N) := by
  intro dp
  induction dp with
  | zero =>
    intro ds N hN hd
    refine FNX.defK (names := ["draws", "deep"]) drWc X rfl (BINDS.pos (fun vs h => ?_)) (by decide) rfl ?_
    · match vs, h with
      | [a, b], _ => kernel_rfl
    refine EX.assignX (K := fun d o => ∃ x es, d = .int x ∧ o = [(D, .lst (intL es))] ∧ es.length ≤ N) ?_ fun d o hK => ?_
    · cases ds with
      | nil => exact EVX.ifF (ETO.view (x := "draws") (y := .lst []) rfl (ET.val (EV.name rfl) (TRU.list (xs := []) (by decide)))) (EVX.pure EV.int ⟨8, [], rfl, rfl, Nat.zero_le _⟩)
      | cons x r =>
        have hl : (intL (x :: r)).length ≤ sizeLine := by unfold intL; rw [List.length_map]; exact Nat.le_trans hd (Nat.le_trans hN (sz rfl))
        refine EVX.ifT (ETO.view (x := "draws") (y := .lst (intL (x :: r))) rfl (ET.val (EV.name rfl) (TRU.list (xs := intL (x :: r)) (by unfold intL; rw [List.length_map]; omega)))) (EVX.pop0 (d := .int x) (xs := intL r) rfl EV.int hl ⟨x, r, rfl, rfl, Nat.le_of_succ_le hd⟩)
    · obtain ⟨x, es, rfl, rfl, he⟩ := hK
      exact drawn_rest X rfl rfl rfl he fun dp' h => nomatch h
  | succ dp ih =>
    intro ds N hN hd
    refine FNX.defK (names := ["draws", "deep"]) drWc X rfl (BINDS.pos (fun vs h => ?_)) (by decide) rfl ?_
    · match vs, h with
      | [a, b], _ => kernel_rfl
    refine EX.assignX (K := fun d o => ∃ x es, d = .int x ∧ o = [(D, .lst (intL es))] ∧ es.length ≤ N) ?_ fun d o hK => ?_
    · cases ds with
      | nil => exact EVX.ifF (ETO.view (x := "draws") (y := .lst []) rfl (ET.val (EV.name rfl) (TRU.list (xs := []) (by decide)))) (EVX.pure EV.int ⟨8, [], rfl, rfl, Nat.zero_le _⟩)
      | cons x r =>
        have hl : (intL (x :: r)).length ≤ sizeLine := by unfold intL; rw [List.length_map]; exact Nat.le_trans hd (Nat.le_trans hN (sz rfl))
        refine EVX.ifT (ETO.view (x := "draws") (y := .lst (intL (x :: r))) rfl (ET.val (EV.name rfl) (TRU.list (xs := intL (x :: r)) (by unfold intL; rw [List.length_map]; omega)))) (EVX.pop0 (d := .int x) (xs := intL r) rfl EV.int hl ⟨x, r, rfl, rfl, Nat.le_of_succ_le hd⟩)
    · obtain ⟨x, es, rfl, rfl, he⟩ := hK
      refine drawn_rest X rfl rfl rfl he fun dp' h => ?_
      obtain rfl := Nat.succ.inj h
      exact fun ds' hl => ih ds' N hN hl
end
end Mine
end

section -- V1
open PySem PySem.Calls PySem.W PyProof.Rows PySem.SeqAt PySem.MeetsSeq
set_option maxRecDepth 100000
set_option linter.unusedVariables false
namespace Mine
theorem ints_any {hk : PD → Int} {L M : Led} : ∀ {es : List Int} {vs : List Value}, IsAll hk L vs (intL es) → IsAll hk M vs (intL es)
  | [], _, h => by cases h; exact .nil
  | e :: es, _, h => by
    have h : IsAll hk L _ (.int e :: intL es) := h
    cases h with
    | cons h1 h2 => cases h1; exact .cons (.int _ _) (ints_any h2)
theorem intL_drop (es : List Int) (k : Nat) : (intL es).drop k = intL (es.drop k) := (List.map_drop ..).symm
theorem intL_take (es : List Int) (k : Nat) : (intL es).take k = intL (es.take k) := (List.map_take ..).symm
theorem intL_app (xs ys : List Int) : intL xs ++ intL ys = intL (xs ++ ys) := (List.map_append ..).symm
theorem intL_len (xs : List Int) : (intL xs).length = xs.length := List.length_map ..
section
variable {w : World} {H : Heap} {hk : PD → Int} {n m : Nat} {F : Fm} {wc : List Str} {look : Look} {own own' : Own} {A : Around} {B : Bs} {s s' s₁ : Shared} {L L' L₂ Lw : Led} {env : Env} {E : Value → Shared → Prop} {G : Goal}
/-- a list of ints cut by a slice: a new one, to be changed -/
theorem slice_own {value slice : Expr} {l : Addr} {o : Obj} {vs : Array Value} {nn : Nat} {vl vu : Value} {lo hi : Option Int} {ys : List Int} (led : Holds H L s.heap) (inv : Inv H s.heap) (h1 : L l o) (h2 : o.cls = .type "list") (h3 : o.data = .seq vs nn) (pl : IsPart vl lo) (pu : IsPart vu hi)
    (hy : IsAll hk L (slicePick vs lo hi Option.none).toList (intL ys)) (hsz : vs.size ≤ sizeLine) (hs : ∀ o v, subscripted slice false o v = operate [v, o] (getItem o v)) :
    wpAny (model prg w) A (subscriptTail value slice (.ref l) (.ref s.heap.objs.size)) (fun v s' => ∃ D, v = .ref D ∧ Pure H s s' ∧ s.heap.get? D = Option.none ∧ ∀ L', OwnAt hk L' s'.heap D (.lst (intL ys))) (fun _ _ => False) { s with heap := s.heap.push { cls := .type "slice", data := .fields #[vl, vu, .none] } } := by
  have hl : s.heap.IsList l vs := ⟨o, (led _ _ h1).1, h2, nn, h3⟩
  refine kba_turn (value' := PySem.Expr.Name (PySem.Str.ofString "_") ⟨0, 0, 0, 0⟩) (fun _ => rfl) ?_
  refine subscriptTail_ops (Heap.IsList.typeIs (s := { s with heap := s.heap.push { cls := .type "slice", data := .fields #[vl, vu, .none] } }) (hl.push _)) list_getitem_lookup
    (wpAny_getItem_list_slice (hl.push _) (Heap.IsSliceOf.new ..) pl pu .none (by simp) ?_ hsz) (hs _ _) (fun _ => rfl)
  have q1 : Pure H s { s with heap := s.heap.push { cls := .type "slice", data := .fields #[vl, vu, .none] } } := .push inv _
  have q2 := q1.trans (Pure.push (s := { s with heap := s.heap.push { cls := .type "slice", data := .fields #[vl, vu, .none] } }) q1.inv { cls := .type "list", data := .seq (slicePick vs lo hi Option.none) })
  refine ⟨_, rfl, q2, ?_, fun L' => ⟨_, _, Heap.get?_push_size _ rfl, ints_any hy⟩⟩
  exact Heap.get?_none_of_le (by show s.heap.objs.size ≤ (s.heap.push _).objs.size; rw [Heap.size_push]; exact Nat.le_succ _)
theorem EN.sliceFrom {value e : Expr} {pos p : Pos} {xs : List Int} {k : Nat} (h : EV prg w hk H n F look value (.list (intL xs))) (he : EV prg w hk H n F look e (.int (k : Int))) (hz : xs.length ≤ sizeLine)
    (hs : ∀ o v, subscripted (.Slice (some e) Option.none Option.none p) false o v = operate [v, o] (getItem o v) := by intro _ _; rfl)
    (ho : ∀ env, valueOrNone (evalOpt (some e) env) = eval e env := by intro _; rfl) : EN prg w hk H n F look (.Subscript value (.Slice (some e) Option.none Option.none p) pos) (.lst (intL (xs.drop k))) := fun A s L env ok p => by
  refine Subscript_ (h.use ok p fun o s₁ q₁ i₁ p₁ => ?_)
  rw [arm_eval_Slice]
  refine wpAny_bind ?_
  rw [ho]
  refine he.use ok p₁ fun v s₂ q₂ i₂ p₂ => ?_
  refine wpAny_bind (wpAny_holding (wpAny_pure (wpAny_bind (wpAny_holding (wpAny_pure ?_)))))
  refine wpAny_newObj_type ?_
  cases i₂
  cases i₁ with
  | @list l o vs nn _ h1 h2 h3 h4 =>
  refine wpAny_mono (slice_own (hk := hk) (L := (L.or (Fresh H s.heap s₁.heap)).or (Fresh H s₁.heap s₂.heap)) p₂.led p₂.inv (.inl h1) h2 h3 (lo := some k) (hi := Option.none) (.int _ _) .none (ys := xs.drop k) ?_ (by rw [h4.arr, intL_len]; exact hz) hs) (fun v s₃ e => ?_) fun _ _ f => f
  · rw [slicePick_from', List.toList_toArray, ← intL_drop]
    exact (h4.drop k).mono fun _ _ => .inl
  · obtain ⟨D, rfl, q, hD, hO⟩ := e
    exact ⟨D, rfl, (q₁.trans q₂).trans q, (q₁.trans q₂).keep.none hD, hO⟩
end
section
variable {prog : Program} {w : World} {H : Heap} {hk : PD → Int} {n m : Nat} {F : Fm} {wc wc' : List Str} {look : Look} {own own' : Own} {A : Around} {B : Bs} {s s' s₁ : Shared} {L L' L₂ Lw : Led} {env : Env} {E : Value → Shared → Prop} {G : Goal}
/-- a display of two, each of which may change own objects -/
theorem EVX.list2 {e1 e2 : Expr} {pos : Pos} {K1 : PD → Own → Prop} {K : PD → Own → Prop} (h1 : EVX prog w hk H n F wc look own e1 K1) (h2 : ∀ d o, K1 d o → EVX prog w hk H n F wc look o e2 (fun d' o' => K (.list [d, d']) o'))
    (he1 : ∀ env, starEach [e1, e2] env = (false, eval e1 env) :: starEach [e2] env := by intro _; rfl) (he2 : ∀ env, starEach [e2] env = (false, eval e2 env) :: starEach [] env := by intro _; rfl) : EVX prog w hk H n F wc look own (.List [e1, e2] pos) K := fun A B s L env ok st => by
  refine wpAny_List (wpAny_items_cons (wpAny_mono (h1 A B s L env ok st) (fun v1 s1 e1 => ?_) fun _ _ f => f) (he1 env))
  obtain ⟨d1, o1, L1, k1, st1, i1, sub1⟩ := e1
  refine wpAny_items_cons (wpAny_mono (h2 d1 o1 k1 A B s1 L1 env ok st1) (fun v2 s2 e2 => ?_) fun _ _ f => f) (he2 env)
  obtain ⟨d2, o2, L2, k2, st2, i2, sub2⟩ := e2
  refine wpAny_items_nil ⟨by show 2 ≤ sizeLine; decide, ?_⟩
  have q := Pure.push st2.pre.inv { cls := .type "list", data := .seq #[v1, v2] }
  refine ⟨_, o2, _, k2, st2.step q, .list (n := 0) (vs := #[v1, v2]) (.inr (Fresh.push rfl ⟨.inl (by simp), st2.pre.inv.new (st2.pre.inv.none (get_size _))⟩)) rfl rfl (.cons ((i1.mono sub2).mono fun _ _ => .inl) (.cons (i2.mono fun _ _ => .inl) .nil)), fun a o e => .inl (sub2 _ _ (sub1 _ _ e))⟩
/-- a cell is written no more -/
theorem St.seal {x y : Str} (st : St hk H B F wc env look own L s) (hx : x ∈ wc) (hc : F.sc.names.lookup x = some .cell) (hl : look x = some (.str y)) (hw : ∀ z ∈ wc', z ∈ wc ∧ z ≠ x) :
    ∃ L' c o t, env.cells.lookup x = some c ∧ L' c o ∧ o.data = .cell (some (.str y t)) ∧ St hk H B F wc' env look own L' s ∧ ∀ a o, L a o → L' a o := by
  obtain ⟨v, r, iv⟩ := st.pre.view x _ hl
  have hk' : env.kindOf x = some .cell := by unfold Env.kindOf; rw [st.pre.scope]; exact hc
  rcases r with ⟨h1, _⟩ | ⟨_, c, hcl, o, ho, hd⟩
  · rw [hk'] at h1; cases h1
  cases iv with
  | str _ t =>
    obtain ⟨ca, cb, _⟩ := st.cel x c hx hc hcl
    have good : Good H c o := ⟨.inr (.inl fun vs q => by rw [hd] at q; cases q), st.pre.inv.new (st.mine ca)⟩
    refine ⟨L.or fun b o' => b = c ∧ o' = o, c, o, t, hcl, .inr ⟨rfl, rfl⟩, hd, ⟨{ st.pre with led := st.pre.led.or ?_, view := fun y d' e => ?_ }, st.inv0, st.no, st.pure, fun b o' e => ?_, fun b o' e => .inl (st.sub b o' e), fun p hp => ?_, st.nodup, ?_, fun z c' h0 h1 h2 => ?_, fun z y' c' h0 => st.cells.1 z y' c' (hw z h0).1, st.cells.2⟩, fun _ _ => .inl⟩
    · rintro b o' ⟨rfl, rfl⟩; exact ⟨ho, good⟩
    · obtain ⟨v, r, i⟩ := st.pre.view y d' e; exact ⟨v, r, i.mono fun _ _ => .inl⟩
    · rcases e with e | ⟨rfl, rfl⟩
      · exact st.base b o' e
      · exact .inr ca
    · obtain ⟨a, b, c1, d1, d2⟩ := st.ownAt p hp
      refine ⟨a.mono (fun _ _ => .inl) rfl, b, fun o' e => ?_, d1, d2⟩
      rcases e with e | ⟨e, _⟩
      · exact c1 o' e
      · exact d2 x c hcl e.symm
    · obtain ⟨la, lb, m, hm⟩ := st.loc
      refine ⟨la, fun o' e => ?_, m, hm⟩
      rcases e with e | ⟨e, _⟩
      · exact lb o' e
      · exact st.cells.2 x c hcl e.symm
    · obtain ⟨a, b, v', d'⟩ := st.cel z c' (hw z h0).1 h1 h2
      refine ⟨a, fun o' e => ?_, v', d'⟩
      rcases e with e | ⟨e, _⟩
      · exact b o' e
      · exact (hw z h0).2 (st.cells.1 x z c hx hcl (e ▸ h2))
/-- an object's two values -/
theorem Is.split {v : Value} {k : Addr} {p q : PD} (i : Is hk L v (.obj k p q)) : ∃ vp vq, Is hk L vp p ∧ Is hk L vq q ∧ Is hk L v (.obj k (.val vp) (.val vq)) := by
  cases i with
  | obj h1 h2 h3 h4 =>
    cases h3 with
    | @dict d o es ep _ g1 g2 g3 g4 =>
      obtain ⟨es⟩ := es
      have g4 : IsEs hk L es [(.str "p", p), (.str "q", q)] := g4
      cases g4 with
      | @cons e1 r1 _ _ a1 a2 a3 a4 =>
        cases a4 with
        | @cons e2 r2 _ _ b1 b2 b3 b4 =>
          cases b4
          exact ⟨e1.val, e2.val, a3, b3, .obj h1 h2 (.dict g1 g2 g3 (.cons a1 a2 (.val _) (.cons b1 b2 (.val _) .nil))) h4⟩
/-- what is the very same as itself -/
def selfOk : Value → Bool
  | .ref _ => true
  | .none => true
  | .int _ t => !(t == 0)
  | .str _ t => !(t == 0)
  | _ => false
theorem Is.selfOk {v : Value} {k : Addr} : ∀ {t : T}, Is hk L v (laidZ k t) → selfOk v = true
  | .n i, h => by cases h with | intz _ t ht => simp [Mine.selfOk, ht]
  | .t x, h => by cases h with | strz _ t ht => simp [Mine.selfOk, ht]
  | .z, h => by cases h; rfl
  | .l ts, h => by cases h; rfl
  | .u ts, h => by cases h; rfl
  | .o a b, h => by cases h; rfl
  | .d ks ts, h => by cases h; rfl
theorem CMP.isNotSelf {v : Value} (h : Mine.selfOk v = true) : CMP prog w hk H n .IsNot (.val v) (.val v) false := fun A s L x y ok inv led i j => by
  cases i; cases j
  cases v with
  | ref a => exact wpAny_isNot_ref_self ⟨rfl, .refl inv⟩
  | none => exact wpAny_isNot_self rfl ⟨rfl, .refl inv⟩
  | int p t =>
    have ht : (t == 0 || t == 0) = false := by simpa [Mine.selfOk] using h
    show wpAny _ _ (do return Value.bool (!(← isSame (.int p t) (.int p t)))) _ _ s
    refine wpAny_bind ?_
    show wpAny _ _ (if (p == p && smallInt p) = true then isSame.cachedInt t t else isSame.created (p == p) t t) _ _ s
    refine wpAny_ite ?_
    split
    · unfold isSame.cachedInt
      refine wpAny_ite ?_
      split
      · rename_i h2; rw [ht] at h2; cases h2
      · exact wpAny_bind (wpAny_rule (wpAny_pure (wpAny_pure ⟨rfl, .refl inv⟩)))
    · unfold isSame.created
      refine wpAny_ite ?_
      split
      · rename_i h2; rw [ht] at h2; cases h2
      refine wpAny_ite ?_
      rw [if_pos (beq_self_eq_true t)]
      exact wpAny_pure (wpAny_pure ⟨rfl, .refl inv⟩)
  | str x t =>
    have ht : (t == 0 || t == 0) = false := by simpa [Mine.selfOk] using h
    show wpAny _ _ (do return Value.bool (!(← isSame (.str x t) (.str x t)))) _ _ s
    refine wpAny_bind ?_
    show wpAny _ _ (isSame.created (x == x) t t) _ _ s
    unfold isSame.created
    refine wpAny_ite ?_
    split
    · rename_i h2; rw [ht] at h2; cases h2
    refine wpAny_ite ?_
    rw [if_pos (beq_self_eq_true t)]
    exact wpAny_pure (wpAny_pure ⟨rfl, .refl inv⟩)
  | _ => cases h
theorem IsAll.of {vs : List Value} {xs : List PD} (hl : vs.length = xs.length) (h : ∀ (i : Nat) v x, vs[i]? = some v → xs[i]? = some x → Is hk L v x) : IsAll hk L vs xs := by
  induction xs generalizing vs with
  | nil => cases vs with
    | nil => exact .nil
    | cons => cases hl
  | cons x xs ih => cases vs with
    | nil => cases hl
    | cons v vs => exact .cons (h 0 v x rfl rfl) (ih (Nat.succ.inj hl) fun i v x hv hx => h (i + 1) v x hv hx)
/-- the keys of a table, as a list -/
theorem FN.listDict {xs : List (Str × PD)} (hnd : (xs.map (·.1)).Nodup) (hz : xs.length ≤ sizeLine) : FN prog w (hkW w) H n (.val (.type "list")) [.dict (xs.map fun p => (.str p.1, p.2))] [] (.list (xs.map fun p => .str p.1)) := fun A s L fv vs kvs ok inv led iv i1 i2 i3 => by
  cases iv
  obtain rfl := kvs_nil i3
  obtain ⟨u, rfl, iu⟩ := i1.one1
  cases iu with
  | @dict d od es ep _ h1 h2 h3 h4 =>
    obtain ⟨hp, hko⟩ := IsEs.pairsStr (prog := prog) (w := w) h4
    have hlen : es.toList.length = xs.length := by rw [h4.length, List.length_map]
    have hm : (((xs.map (·.1)).zip (es.toList.map (·.val))).map (·.1)) = xs.map (·.1) := List.map_fst_zip (by rw [List.length_map, List.length_map]; omega)
    have hat : s.heap.DictAt (PySem.strKind prog w) d ((xs.map (·.1)).zip (es.toList.map (·.val))) ep := ⟨od, es, (led _ _ h1).1, h2, h3, fun e he => hko e (Array.mem_toList_iff.mpr he), hp, by rw [hm]; exact hnd⟩
    have hl2 : ((xs.map (·.1)).zip (es.toList.map (·.val))).length = xs.length := by rw [← List.length_map (f := (·.1)), hm, List.length_map]
    generalize (xs.map (·.1)).zip (es.toList.map (·.val)) = kvs at hp hm hat hl2
    refine kdl_call (kdl_dict (knd := PySem.strKind prog w) (kvs := kvs) (ep := ep) (led _ _ h1).2.2) ok.handled hat (by rw [hl2]; exact hz) fun h' tk acc' c' hk' hS hacc => ?_
    have q : Pure H s { s with heap := h', toks := tk } := .all inv hk'
    refine ⟨q, .list (.inr ⟨get_size _, hS, .inl (by simp), inv.new (inv.none (get_size _))⟩) rfl rfl (IsAll.of (by rw [Array.length_toList, hacc.1, hl2, List.length_map]) fun i v x hv hx => ?_)⟩
    obtain ⟨k, y, hky, hiv⟩ := hacc.2 i v (by rw [← Array.getElem?_toList]; exact hv)
    have hk1 : (xs.map (·.1))[i]? = some k := by rw [← hm, List.getElem?_map, hky]; rfl
    rw [List.getElem?_map] at hx hk1
    obtain ⟨z, hz1, rfl⟩ := Option.map_eq_some_iff.mp hx
    rw [hz1] at hk1
    cases hk1
    obtain ⟨t, rfl⟩ := Value.isStrOf_shape hiv
    exact .str _ _
end
end Mine
end

section -- V2
open PySem PySem.Calls PySem.W PyProof.Rows PySem.SeqAt PySem.MeetsSeq
set_option maxRecDepth 100000
set_option linter.unusedVariables false
namespace Mine
theorem storeAll_cons (D : Addr) (k v : Value) (r : List (Value × Value)) : storeAll D ((k, v) :: r) = (do dictSet D k v; storeAll D r) := by
  unfold storeAll
  rw [List.forIn_cons]
  simp
theorem storeAll_nil (D : Addr) : storeAll D [] = pure PUnit.unit := by
  unfold storeAll
  simp
section
variable {prog : Program} {w : World} {H : Heap} {n m : Nat} {F : Fm} {wc wc' : List Str} {look : Look} {own own' : Own} {A : Around} {B : Bs} {s s' s₁ : Shared} {L L' L₂ Lw : Led} {env : Env} {E : Value → Shared → Prop} {G : Goal} {hk : PD → Int}
theorem Pre.keepL (p : Pre hk H F env look L s) (q : Pure H s s') : Pre hk H F env look L s' :=
  ⟨q.inv, p.led.keep q.keep, p.scope, p.kind, p.glob, p.blt, p.code, p.qual, p.has, fun x c e => let ⟨o, e⟩ := p.cthere x c e; q.keep.there c o e, fun x d e => let ⟨v, r, i⟩ := p.view x d e; ⟨v, r.keep q.keep, i⟩⟩
/-- a display of a table of two words -/
theorem EV.dict2 {x1 x2 : Str} {e1 e2 : Expr} {k1 k2 : Nat} {p1 p2 pos : Pos} {d1 d2 : PD} (hn : 1 ≤ n) (h1 : EV prog w (hkW w) H n F look e1 d1) (h2 : EV prog w (hkW w) H n F look e2 d2) (hj1 : KeyAt [] (.str x1) Option.none) (hj : KeyAt [(.str x1, d1)] (.str x2) Option.none) :
    EV prog w (hkW w) H n F look (.Dict [some (.Constant (.str x1) k1 p1), some (.Constant (.str x2) k2 p2)] [e1, e2] pos) (.dict [(.str x1, d1), (.str x2, d2)]) := fun A s L env ok p => by
  refine wpAny_Dict_any rfl rfl (by simp) (by simp) ?_
  have q0 : Pure H s { s with heap := s.heap.push { cls := .type "dict", data := .dict #[] } } := .push p.inv _
  have hD0 : (s.heap.push { cls := .type "dict", data := .dict #[] }).get? s.heap.objs.size = some ({ cls := .type "dict", data := .dict #[] } : Obj) := Heap.get?_push_size _ rfl
  have hDs : s.heap.get? s.heap.objs.size = Option.none := get_size _
  have nl0 : ∀ o, ¬ L s.heap.objs.size o := fun o e => by rw [(p.led _ _ e).1] at hDs; cases hDs
  have hHD : H.get? s.heap.objs.size = Option.none := p.inv.none hDs
  generalize hDe : s.heap.objs.size = D at *
  refine pairTrees_cons_walk (EV.str.use ok (p.keepL q0) fun kv1 s1 q1 i1 r1 => h1.use ok r1 fun v1 s2 q2 i2 r2 => pairTrees_cons_walk (EV.str.use ok r2 fun kv2 s3 q3 i3 r3 => h2.use ok r3 fun v2 s4 q4 i4 r4 => pairTrees_nil_walk ?_))
  have t0 : ∃ o, (s.heap.push { cls := .type "dict", data := .dict #[] }).get? D = some o := ⟨_, hD0⟩
  have hD1 := q1.keep.keep _ _ hD0 (.inl (by simp))
  have hD2 := q2.keep.keep _ _ hD1 (.inl (by simp))
  have hD3 := q3.keep.keep _ _ hD2 (.inl (by simp))
  have hD4 := q4.keep.keep _ _ hD3 (.inl (by simp))
  have qq := (((q0.trans q1).trans q2).trans q3).trans q4
  have key : ∀ L4 : Led, Holds H L4 s4.heap → Is (hkW w) L4 kv1 (.str x1) → Is (hkW w) L4 v1 d1 → Is (hkW w) L4 kv2 (.str x2) → Is (hkW w) L4 v2 d2 → (∀ o, ¬ L4 D o) → (∀ a o, L4 a o → L a o ∨ s.heap.get? a = Option.none) →
      wpAny (model prog w) A (storeAll D [(kv1, v1), (kv2, v2)]) (fun _ s₂ => Post (hkW w) H L s (.dict [(.str x1, d1), (.str x2, d2)]) (.ref D) s₂) (fun _ _ => False) s4 := fun L4 led4 j1 j2 j3 i4 nl bse => by
    rw [storeAll_cons]
    refine wpAny_bind (set_pd led4 ok.unit hD4 .nil j1 j2 hj1 (Nat.zero_le _) nl fun h5 tk5 hs5 hO5 => ?_)
    obtain ⟨es5, ep5, g5, ies5⟩ := hO5
    rw [storeAll_cons]
    have led5 := led4.same hs5 nl
    refine wpAny_bind (set_pd (s := { s4 with heap := h5, toks := tk5 }) led5 ok.unit g5 ies5 j3 i4 hj (by show 1 ≤ sizeLine; decide) nl fun h6 tk6 hs6 hO6 => ?_)
    obtain ⟨es6, ep6, g6, ies6⟩ := hO6
    have led6 := led5.same hs6 nl
    rw [storeAll_nil]
    refine wpAny_pure ?_
    have x4 : PureX H (fun a => a = D) s s4 := .of qq
    have x5 : PureX H (fun a => a = D) s { s4 with heap := h5, toks := tk5 } := x4.join (Y := fun a => a = D) (.one qq.inv hHD (fun o x e => by rw [hD4] at e; cases e; exact RecAt.dict rfl x) rfl hs5 ⟨_, g5⟩) fun a e => .inr e
    have x6 : PureX H (fun a => a = D) s { s4 with heap := h6, toks := tk6 } := x5.join (Y := fun a => a = D) (.one (s := { s4 with heap := h5, toks := tk5 }) x5.inv hHD (fun o x e => by rw [g5] at e; cases e; exact RecAt.dict rfl x) rfl hs6 ⟨_, g6⟩) fun a e => .inr e
    have q6 := x6.pure fun a e => e ▸ hDs
    refine ⟨q6, .dict (.inr ⟨hDs, g6, .inl (by simp), q6.inv.new hHD⟩) ⟨rfl, rfl, rfl⟩ rfl (ies6.mono fun a o e => ?_)⟩
    rcases bse a o e with z | z
    · exact .inl z
    · exact .inr ⟨z, led6 _ _ e⟩
  refine key _ r4.led (i1.mono fun _ _ e => .inl (.inl (.inl e))) (i2.mono fun _ _ e => .inl (.inl e)) (i3.mono fun _ _ e => .inl e) i4 ?_ fun a o e => ?_
  · exact not_fresh (not_fresh (not_fresh (not_fresh nl0 t0) ⟨_, hD1⟩) ⟨_, hD2⟩) ⟨_, hD3⟩
  · rcases e with (((e | e) | e) | e) | e
    · exact .inl e
    · exact .inr (q0.keep.none e.1)
    · exact .inr (q0.keep.none (q1.keep.none e.1))
    · exact .inr (q0.keep.none (q1.keep.none (q2.keep.none e.1)))
    · exact .inr (q0.keep.none (q1.keep.none (q2.keep.none (q3.keep.none e.1))))
end
end Mine
end

section -- V3
open PySem PySem.Calls PySem.W PyProof.Rows PySem.SeqAt PySem.MeetsSeq
set_option maxRecDepth 100000
set_option linter.unusedVariables false
namespace Mine
section
variable {prog : Program} {w : World} {H : Heap} {hk : PD → Int} {n m : Nat} {F : Fm} {wc wc' : List Str} {look : Look} {own own' : Own} {A : Around} {B : Bs} {s s' s₁ : Shared} {L L' L₂ Lw T : Led} {env : Env} {E : Value → Shared → Prop} {G : Goal}
/-- as raw_seg; what was known is known -/
theorem raw_segS {xs ys : List Stmt} {P : Look → Own → Prop} {Q : Flow → Shared → Prop} (h : EX prog w hk H n F wc look own xs ⟨P, fun _ _ => False, fun _ _ => False⟩) (ok : Ok n A) (st : St hk H B F wc env look own L s)
    (k : ∀ l o L' s', P l o → (∀ a o, L a o → L' a o) → St hk H B F wc env l o L' s' → wpAny (model prog w) A (execs ys env) Q E s') : wpAny (model prog w) A (execs (xs ++ ys) env) Q E s :=
  raw_seg h ok st.rebase fun l o L' s' hP st' => k l o L' s' hP st'.sub (st.back st')
/-- a name seen another way -/
theorem Pre.relook {y : Str} {d d' : PD} (p : Pre hk H F env look L s) (hy : look y = some d) (hi : ∀ v, Is hk L v d → Is hk L v d') : Pre hk H F env (upd look y d') L s := by
  refine { p with view := fun z dz e => ?_ }
  unfold upd at e
  split at e
  · rename_i hz
    obtain rfl := Option.some.inj e
    obtain ⟨v, r, i⟩ := p.view _ _ hy
    exact ⟨v, hz ▸ r, hi v i⟩
  · exact p.view z dz e
theorem St.relook {y : Str} {d d' : PD} (st : St hk H B F wc env look own L s) (hy : look y = some d) (hi : ∀ v, Is hk L v d → Is hk L v d') : St hk H B F wc env (upd look y d') own L s :=
  { st with pre := st.pre.relook hy hi }
/-- as EB, where some things are known -/
def EBT (T : Led) (prog : Program) (w : World) (hk : PD → Int) (H : Heap) (n : Nat) (F : Fm) (look : Look) (op : BoolOp) (es : List Expr) (b : Bool) : Prop :=
  ∀ (A : Around) (s : Shared) (L : Led) (env : Env), (∀ a o, T a o → L a o) → Ok n A → Pre hk H F env look L s → wpAny (model prog w) A (allTrue op es env) (fun t s' => t = b ∧ Pure H s s') (fun _ _ => False) s
theorem EBT.orF {x : Expr} {es : List Expr} {b : Bool} (h : ET prog w hk H n F look x false) (t : EBT T prog w hk H n F look .Or es b) : EBT T prog w hk H n F look .Or (x :: es) b := fun A s L env hT ok p =>
  wpAny_allTrue_Or_cons (h.use ok p fun s' q p' => by
    show wpAny _ _ (allTrue .Or es env) _ _ s'
    exact wpAny_mono (t A s' _ env (fun a o e => .inl (hT a o e)) ok p') (fun _ _ h => ⟨h.1, q.trans h.2⟩) fun _ _ f => f)
theorem EBT.view {y : Str} {d d' : PD} {op : BoolOp} {es : List Expr} {b : Bool} (hy : look y = some d) (hi : ∀ (L : Led) v, (∀ a o, T a o → L a o) → Is hk L v d → Is hk L v d') (h : EB prog w hk H n F (upd look y d') op es b) : EBT T prog w hk H n F look op es b := fun A s L env hT ok p =>
  h A s L env ok (p.relook hy fun v => hi L v hT)
/-- an `if` that is passed by, where some things are known -/
theorem raw_ifF {op : BoolOp} {es : List Expr} {tpos pos : Pos} {a rest : List Stmt} {Q : Flow → Shared → Prop} (h : EBT T prog w hk H n F look op es false) (hT : ∀ a o, T a o → L a o) (ok : Ok n A) (st : St hk H B F wc env look own L s)
    (k : ∀ L' s', (∀ a o, L a o → L' a o) → St hk H B F wc env look own L' s' → wpAny (model prog w) A (execs rest env) Q E s') : wpAny (model prog w) A (execs (.If (.BoolOp op es tpos) a [] pos :: rest) env) Q E s := by
  refine wpAny_execs_cons (wpAny_If (wpAny_isTrue_BoolOp (wpAny_mono (h A s L env hT ok st.pre) (fun t s' e => ?_) fun _ _ f => f.elim)))
  obtain ⟨rfl, q⟩ := e
  show wpAny _ _ (execs [] env) _ _ s'
  exact wpAny_execs_nil (k _ s' (fun _ _ => .inl) (st.step q))
theorem raw_ret {e : Expr} {pos : Pos} {rest : List Stmt} {d : PD} {Q : Flow → Shared → Prop} (h : EV prog w hk H n F look e d) (ok : Ok n A) (st : St hk H B F wc env look own L s)
    (k : ∀ v L' s', St hk H B F wc env look own L' s' → Is hk L' v d → Q (.ret v) s') : wpAny (model prog w) A (execs (.Return (some e) pos :: rest) env) Q E s :=
  wpAny_execs_cons (wpAny_Return_some (h.use ok st.pre fun v s' q i p' => k v _ s' (st.step q) i))
/-- an object's values, seen again as what they are -/
theorem Is.join {v vp vq : Value} {k : Addr} {p q : PD} (i : Is hk L v (.obj k (.val vp) (.val vq))) (ip : Is hk L vp p) (iq : Is hk L vq q) : Is hk L v (.obj k p q) := by
  cases i with
  | obj h1 h2 h3 h4 =>
    cases h3 with
    | @dict d o es ep _ g1 g2 g3 g4 =>
      obtain ⟨es⟩ := es
      have g4 : IsEs hk L es [(.str "p", .val vp), (.str "q", .val vq)] := g4
      cases g4 with
      | @cons e1 r1 _ _ a1 a2 a3 a4 =>
        cases a4 with
        | @cons e2 r2 _ _ b1 b2 b3 b4 =>
          cases b4
          have a3 : Is hk L e1.val (.val vp) := a3
          have b3 : Is hk L e2.val (.val vq) := b3
          have a5 : e1.val = vp := by
            generalize e1.val = z at a3; cases a3; rfl
          have b5 : e2.val = vq := by
            generalize e2.val = z at b3; cases b3; rfl
          exact .obj h1 h2 (.dict g1 g2 g3 (.cons a1 a2 (a5 ▸ ip) (.cons b1 b2 (b5 ▸ iq) .nil))) h4
theorem Is.joinT {v vp vq : Value} {p q : PD} (i : Is hk L v (.tup [.val vp, .val vq])) (ip : Is hk L vp p) (iq : Is hk L vq q) : Is hk L v (.tup [p, q]) := by
  cases i with
  | @tup a o vs nn _ h1 h2 h3 h4 =>
    obtain ⟨u1, u2, eu, j1, j2⟩ := h4.two
    cases j1; cases j2
    exact .tup h1 h2 h3 (eu ▸ .cons ip (.cons iq .nil))
theorem CMP.ofNe {d : PD} (h : RCJ prog w hk H n .NotEq d false) : CMP prog w hk H n .NotEq d d false := fun A s L u v ok inv led i j => h A s L u v ok inv led i j
theorem FNO.le {f : PD} {ps : List PD} {ks : List (Str × PD)} {K : PD → Own → Prop} (h : FNO prog w hk H n f ps ks K) (hn : n ≤ m) : FNO prog w hk H m f ps ks K := fun A s L fv vs kvs ok => h A s L fv vs kvs (ok.le hn)
theorem free1_of {names : List (Str × NameKind)} {z : Str} (h : (names.all fun y => !(y.2 == .free) || y.1 == z) = true) : ∀ x, names.lookup x = some .free → x = z := fun x hx => by
  have := List.all_eq_true.mp h _ (mem_of_lookup hx)
  simpa using this
end
section
variable {w : World} {H : Heap} {n : Nat} {k : Addr} {u v d1 d2 d : PD} {F : Fm} {look : Look} {hk : PD → Int}
noncomputable def leftFp (w : World) : FuncData := fpOf ((bodyOf (fdOf (KK w) 517)).getD 5 (.Pass ⟨0, 0, 0, 0⟩))
noncomputable def turnFp (w : World) : FuncData := fpOf ((bodyOf (fdOf (KK w) 517)).getD 6 (.Pass ⟨0, 0, 0, 0⟩))
theorem left_is (X : Env0 (KK w) H) {wo x : Str} : FN prg w (hkW w) H (n + 1) (.clo (leftFp w) (some ("without", wo))) [.attr x, d] [] (.val (.bool (woF wo x))) := by
  refine FN.clo (ds := []) (names := ["attribute", "value"]) (body := (match (leftFp w).body with | .stmts b => b | _ => [])) rfl rfl rfl rfl (noCell_of (by rfl)) (fun x hx => ⟨wo, ?_⟩) (fun z x h => ?_) (fun fd vs h1 h2 h3 hl => ?_) rfl (by decide) (local1 (by rfl)) ?_
  · rw [free1_of (z := "without") (by rfl) x hx]
  · cases h; exact ⟨rfl, rfl⟩
  · match vs, hl with
    | [a, b], _ =>
      obtain ⟨f1, f2, f3, f4, f5, f6, f7, f8, f9⟩ := fd
      dsimp only at h1 h2 h3
      subst h1 h2 h3
      kernel_rfl
  · exact EX.ret (EV.cmp (EV.attrNm X rfl) (EV.name (d := .str wo) rfl) CMP.neStr) rfl
theorem turn_run (X : Env0 (KK w) H) {r : PD} {b : Bool} (hi : FN prg w (hkW w) H n (.val (.builtin "isinstance")) [d, .val (.type "int")] [] (.val (.bool b))) (h1 : b = true → ∃ i, d = .int i ∧ r = .int (i + 1000)) (h2 : b = false → r = d) : FN prg w (hkW w) H (n + 1) (.clo (turnFp w) Option.none) [d1, d2, d] [] r := by
  refine FN.clo (ds := []) (names := ["inst", "attribute", "value"]) (body := (match (turnFp w).body with | .stmts b => b | _ => [])) rfl rfl rfl rfl (noCell_of (by rfl)) (noFree_of (by rfl)) (fun z x h => nomatch h) (fun fd vs h1 h2 h3 hl => ?_) rfl (by decide) (local1 (by rfl)) ?_
  · match vs, hl with
    | [a, b, c], _ =>
      obtain ⟨f1, f2, f3, f4, f5, f6, f7, f8, f9⟩ := fd
      dsimp only at h1 h2 h3
      subst h1 h2 h3
      kernel_rfl
  · cases b with
    | true =>
      obtain ⟨i, rfl, rfl⟩ := h1 rfl
      exact EX.ret (EV.ifT (ET.val (EV.callF (EV.bk X) (.cons (EV.name rfl) (.cons (EV.bk X) .nil)) .nil KP.blt hi) (.bool _)) (EV.bin (EV.name rfl) EV.int BIN.add)) rfl
    | false =>
      obtain rfl := h2 rfl
      exact EX.ret (EV.ifF (ET.val (EV.callF (EV.bk X) (.cons (EV.name rfl) (.cons (EV.bk X) .nil)) .nil KP.blt hi) (.bool _)) (EV.name rfl)) rfl
theorem turn_is (X : Env0 (KK w) H) {t : Value} (ht : tyS d = some t) : FN prg w (hkW w) H (n + 1) (.clo (turnFp w) Option.none) [d1, d2, d] [] (turnD d) := by
  cases d with
  | int i => exact turn_run X (b := true) (FN.isi1 X.toKOk rfl (by kernel_rfl)) (fun _ => ⟨i, rfl, rfl⟩) (fun h => nomatch h)
  | str x => exact turn_run X (b := false) (FN.isi1 X.toKOk rfl (by kernel_rfl)) (fun h => nomatch h) (fun _ => rfl)
  | list x => exact turn_run X (b := false) (FN.isi1 X.toKOk rfl (by kernel_rfl)) (fun h => nomatch h) (fun _ => rfl)
  | tup x => exact turn_run X (b := false) (FN.isi1 X.toKOk rfl (by kernel_rfl)) (fun h => nomatch h) (fun _ => rfl)
  | dict x => exact turn_run X (b := false) (FN.isi1 X.toKOk rfl (by kernel_rfl)) (fun h => nomatch h) (fun _ => rfl)
  | obj k p q => exact turn_run X (b := false) (FN.isi1 X.toKOk rfl (by kernel_rfl)) (fun h => nomatch h) (fun _ => rfl)
  | val v =>
    cases v with
    | none => exact turn_run X (b := false) (FN.isi1 X.toKOk rfl (by kernel_rfl)) (fun h => nomatch h) (fun _ => rfl)
    | _ => cases ht
  | _ => cases ht
theorem ser_turn (X : Env0 (KK w) H) : Ser w H (.clo (turnFp w) Option.none) true := ⟨(fun h => nomatch h), fun _ => ⟨rfl, KP.clo, fun n d1 d2 d t ht => turn_is X ht⟩⟩
theorem wan_left (X : Env0 (KK w) H) {wo : Str} : Wan w H (.clo (leftFp w) (some ("without", wo))) (woF wo) := ⟨fun h => Bool.noConfusion (show false = true from h), fun _ => ⟨KP.clo, fun n x d => left_is X⟩⟩
end
end Mine
end

section -- M11
open PySem PySem.Calls PySem.W PyProof.Rows PySem.SeqAt PySem.MeetsSeq
set_option maxRecDepth 100000
set_option linter.unusedVariables false
namespace Mine
section
variable {w : World} {H : Heap} {n : Nat}
/-- the empty row that a default bears -/
def noBases : Obj := { cls := .type "tuple", data := .seq #[] }
def basesT : Led := fun a o => a = 397 ∧ o = noBases
theorem bases_in : (KK w).lookup 397 = some noBases := by kernel_rfl
theorem bases_holds (X : Env0 (KK w) H) : ∀ h, Inv H h → Holds H basesT h := fun h inv a o e => by
  obtain ⟨rfl, rfl⟩ := e
  exact ⟨inv.get (X.at_ _ _ bases_in) (by simp [noBases]), .inl (by simp [noBases]), by decide⟩
theorem make_class (X : Env2 w H) : FNO prg w (hkW w) H (n + 7) (.val (.ref 403)) [.str "Drawn", trThese] [] (fun d o => ∃ k, d = .kind k ∧ o = []) := by
  refine FNOT.toKind (T := basesT) (FNOT.defK (names := mcNames) (ds := mcDs) [] X.toEnv0 (by rfl) (BINDST.peek (R := fun vs _ => vs ++ [.ref 397, .none, .none, .none, .bool false, .bool true, .bool false, .none]) X.toKOk (fun vs us h1 h2 => ?_) (fun L vs us hT i1 i2 => ?_) rfl) (by decide) (by rfl) (mc_body X)) (bases_holds X.toEnv0) (fun a o e => ⟨0, by rw [e.2]; rfl⟩)
  · match vs, h1, us, h2 with
    | [a, b], _, [], _ => kernel_rfl
  · refine i1.append (ys := [.tup [], .val .none, .val .none, .val .none, .val (.bool false), .val (.bool true), .val (.bool false), .val .none]) ?_
    exact .cons (.tup (hT _ _ ⟨rfl, rfl⟩) rfl rfl .nil) (.cons (.val _) (.cons (.val _) (.cons (.val _) (.cons (.val _) (.cons (.val _) (.cons (.val _) (.cons (.val _) .nil)))))))
end
end Mine
end

section -- V4
open PySem PySem.Calls PySem.W PyProof.Rows PySem.SeqAt PySem.MeetsSeq
set_option maxRecDepth 100000
set_option linter.unusedVariables false
namespace Mine
section
variable {w : World} {H : Heap} {n : Nat} {k : Addr} {u v d1 d2 d : PD} {F : Fm} {look : Look} {hk : PD → Int}
noncomputable abbrev lawF (w : World) : Fm := ⟨(fdOf (KK w) 517).scope, some (codeOf (fdOf (KK w) 517)), some ((fdOf (KK w) 517).qualname ++ ".<locals>.")⟩
def c10 : List Int := [1, 2, 0, 12, 25, 5, 33, 3, 40, 6]
def numsOf (es : List Int) : List Int := es.take 14 ++ c10.drop es.length
theorem nums_len {es : List Int} : 10 ≤ (numsOf es).length ∧ (numsOf es).length ≤ 14 := by
  unfold numsOf
  rw [List.length_append, List.length_take, List.length_drop, show c10.length = 10 from rfl]
  omega
/-- what the law's names bear, once the drawing is drawn -/
structure LawL (l : Look) (kp tn : Bool) (wo : Str) (a b : T) (k : Addr) : Prop where
  keep : l "keep" = some (.val (.bool kp))
  without : l "without" = some (.str wo)
  turned : l "turned" = some (.val (.bool tn))
  parts : l "parts" = some (.list [drawP a, drawP b])
  made : l "made" = some (.kind k)
theorem LawL.upd {l : Look} {kp tn : Bool} {wo : Str} {a b : T} (h : LawL l kp tn wo a b k) {x : Str} {d0 : PD} (hx : x ∉ (["keep", "without", "turned", "parts", "made"] : List Str)) : LawL (upd l x d0) kp tn wo a b k := by
  have ne : ∀ y ∈ (["keep", "without", "turned", "parts", "made"] : List Str), Mine.upd l x d0 y = l y := fun y hy => by
    unfold Mine.upd
    exact if_neg (by intro e; subst e; exact hx hy)
  exact ⟨(ne _ (by simp)).trans h.keep, (ne _ (by simp)).trans h.without, (ne _ (by simp)).trans h.turned, (ne _ (by simp)).trans h.parts, (ne _ (by simp)).trans h.made⟩
/-- what the drawing holds -/
def Drawn (wo : Str) (a b : T) : Prop := (wo = "" ∨ wo = "p" ∨ wo = "q") ∧ WT a ∧ WT b ∧ ht a ≤ 2 ∧ ht b ≤ 2
def lawBegun : Goal := ⟨fun l o => ∃ kp tn wo a b k, LawL l kp tn wo a b k ∧ o = [] ∧ Drawn wo a b, fun _ _ => False, fun _ _ => False⟩
/-- the class is made -/
theorem law_made (X : Env2 w H) {l : Look} {kp tn : Bool} {wo : Str} {a b : T} (h1 : l "keep" = some (.val (.bool kp))) (h2 : l "without" = some (.str wo)) (h3 : l "turned" = some (.val (.bool tn))) (h4 : l "parts" = some (.list [drawP a, drawP b])) (hd : Drawn wo a b) :
    EX prg w (hkW w) H 50 (lawF w) ["without"] l [] (((bodyOf (fdOf (KK w) 517)).take 5).drop 4) lawBegun := by
  have X0 := X.toEnv0
  refine EX.assignN (EVN.call (EV.gk X0) (.cons EV.str (.cons (EV.dict2 (by decide) (EV.callF (EV.gk X0) .nil .nil (KP.Kk X0) (attrib0 X)) (EV.callF (EV.gk X0) .nil (.cons EV.int .nil) (KP.Kk X0) (attribD X)) (.of (by rfl)) (.of (by rfl))) .nil)) .nil (KP.Kk X0) (make_class X)) fun d o hK => ?_
  obtain ⟨k, rfl, rfl⟩ := hK
  exact EX.nil ⟨kp, tn, wo, a, b, k, ⟨h1, h2, h3, h4, rfl⟩, rfl, hd⟩
theorem law_drawn (X : Env2 w H) {l : Look} {kp tn : Bool} {wo : Str} {ds : List Int} {D : Addr} (h1 : l "keep" = some (.val (.bool kp))) (h2 : l "without" = some (.str wo)) (h3 : l "turned" = some (.val (.bool tn))) (h4 : l "draws" = some (.val (.ref D))) (hz : ds.length ≤ 20) (hw : wo = "" ∨ wo = "p" ∨ wo = "q") :
    EX prg w (hkW w) H 50 (lawF w) ["without"] l [(D, .lst (intL ds))] (((bodyOf (fdOf (KK w) 517)).take 5).drop 3) lawBegun := by
  have X0 := X.toEnv0
  refine EX.assignX (K := fun d o => ∃ a b es, d = .list [drawP a, drawP b] ∧ o = [(D, .lst (intL es))] ∧ WT a ∧ WT b ∧ ht a ≤ 2 ∧ ht b ≤ 2) (EVX.list2 (K1 := fun d o => ∃ a es, d = drawP a ∧ o = [(D, .lst (intL es))] ∧ WT a ∧ ht a ≤ 2 ∧ es.length ≤ 20)
    (EVX.call (EV.gk X0) (.cons (EV.name h4) (.cons EV.int .nil)) (KP.Kk X0) (FNX.le (drawn_spec X0 2 ds 20 (by decide) hz) (by decide)) fun d ys hK => ?_) fun d o hK => ?_) fun d o hK => ?_
  · obtain ⟨t, es, rfl, ht1, ht2, rfl, hes⟩ := hK
    exact ⟨t, es, rfl, rfl, ht1, ht2, hes⟩
  · obtain ⟨a, es, rfl, rfl, wa, ha, hes⟩ := hK
    refine EVX.call (EV.gk X0) (.cons (EV.name h4) (.cons EV.int .nil)) (KP.Kk X0) (FNX.le (drawn_spec X0 2 es 20 (by decide) hes) (by decide)) fun d ys hK => ?_
    obtain ⟨b, es', rfl, hb1, hb2, rfl, hes'⟩ := hK
    exact ⟨a, b, es', rfl, rfl, wa, hb1, ha, hb2⟩
  · obtain ⟨a, b, es, rfl, rfl, wa, wb, ha, hb⟩ := hK
    refine EX.freeze (x := "draws") h4 ?_
    exact law_made X h1 h2 h3 rfl ⟨hw, wa, wb, ha, hb⟩
/-- the law's three choices, its drawing and its class -/
theorem law_three (X : Env2 w H) {l : Look} {x0 x1 x2 : Int} {r : List Int} (hl : l "numbers" = some (.list (intL (x0 :: x1 :: x2 :: r)))) (l2 : (x0 :: x1 :: x2 :: r).length ≤ 14) {wo : Str} {j : Nat} (hj : j < 3) (ej : x1.fmod 3 = (j : Int)) (hw1 : wo = "" ∨ wo = "p" ∨ wo = "q") (hw2 : ([.str "", .str "p", .str "q"] : List PD)[j]? = some (.str wo)) :
    EX prg w (hkW w) H 50 (lawF w) ["without"] l [] (((bodyOf (fdOf (KK w) 517)).take 5).drop 1) lawBegun := by
  have hsub : ∀ {p1 p2 p3 : Pos} {k1 : Nat} {i : Nat} {x : Int}, (intL (x0 :: x1 :: x2 :: r))[i]? = some (.int x) → i ≤ 2 → EV prg w (hkW w) H 50 (lawF w) l (.Subscript (.Name "numbers" p1) (.Constant (.int (i : Int)) k1 p2) p3) (.int x) := fun hx hi =>
    EV.sub (EV.name hl) EV.int (GI.list hx (by omega))
  have ev0 : ∀ {p1 p2 p3 p4 p5 p6 p7 : Pos} {k1 k2 k3 : Nat}, EV prg w (hkW w) H 50 (lawF w) l (.Compare (.BinOp (.Subscript (.Name "numbers" p1) (.Constant (.int 0) k1 p2) p3) .Mod (.Constant (.int 2) k2 p4) p5) [.Eq] [.Constant (.int 1) k3 p6] p7) (.val (.bool (x0.fmod 2 == 1))) := fun {p1 p2 p3 p4 p5 p6 p7 k1 k2 k3} =>
    EV.cmp (EV.bin (hsub (i := 0) rfl (by decide)) EV.int (BIN.mod (by decide))) EV.int (CMP.eq' rfl)
  have ev2 : ∀ {p1 p2 p3 p4 p5 p6 p7 : Pos} {k1 k2 k3 : Nat}, EV prg w (hkW w) H 50 (lawF w) l (.Compare (.BinOp (.Subscript (.Name "numbers" p1) (.Constant (.int 2) k1 p2) p3) .Mod (.Constant (.int 2) k2 p4) p5) [.Eq] [.Constant (.int 1) k3 p6] p7) (.val (.bool (x2.fmod 2 == 1))) := fun {p1 p2 p3 p4 p5 p6 p7 k1 k2 k3} =>
    EV.cmp (EV.bin (hsub (i := 2) rfl (by decide)) EV.int (BIN.mod (by decide))) EV.int (CMP.eq' rfl)
  have ev1 : ∀ {p0 p1 p2 p3 p4 p5 p6 p7 p8 p9 : Pos} {k1 k2 k3 k4 k5 : Nat}, EV prg w (hkW w) H 50 (lawF w) l (.Subscript (.List [.Constant (.str "") k1 p1, .Constant (.str "p") k2 p2, .Constant (.str "q") k3 p3] p4) (.BinOp (.Subscript (.Name "numbers" p5) (.Constant (.int 1) k4 p6) p7) .Mod (.Constant (.int 3) k5 p8) p9) p0) (.str wo) := fun {p0 p1 p2 p3 p4 p5 p6 p7 p8 p9 k1 k2 k3 k4 k5} =>
    EV.subAny (EV.list (.cons EV.str (.cons EV.str (.cons EV.str .nil))) (sz rfl)) (EV.bin (hsub (i := 1) rfl (by decide)) EV.int (ej ▸ BIN.mod (by decide))) (GI.list hw2 (by omega))
  refine EX.unpackF (xs := [("keep", _), ("without", _), ("turned", _)]) (ds := [.val (.bool (x0.fmod 2 == 1)), .str wo, .val (.bool (x2.fmod 2 == 1))]) (EV.tup (.cons ev0 (.cons ev1 (.cons ev2 .nil))) (sz rfl)) ?_ ?_
  · refine EX.newOwn (EN.sliceFrom (k := 3) (xs := x0 :: x1 :: x2 :: r) (EV.name hl) EV.int (Nat.le_trans l2 (by decide))) fun D => ?_
    refine law_drawn X (ds := r) rfl rfl rfl rfl ?_ hw1
    simp only [List.length_cons] at l2
    omega
  · intro z hz
    simp only [List.mem_cons, List.not_mem_nil, or_false] at hz
    rcases hz with rfl | rfl | rfl
    · exact .inl rfl
    · exact .inr ⟨rfl, by simp⟩
    · exact .inl rfl
theorem ES.icons {i : Int} {kk : Nat} {p : Pos} {es : List Expr} {ds : List PD} (t : ES prg w hk H n F look es ds) : ES prg w hk H n F look (.Constant (.int i) kk p :: es) (.int i :: ds) := .cons EV.int t
theorem valueOf (e : Expr) (env : Env) : valueOrNone (evalOpt (some e) env) = eval e env := rfl
abbrev c10D : List PD := [.int 1, .int 2, .int 0, .int 12, .int 25, .int 5, .int 33, .int 3, .int 40, .int 6]
theorem c10_eq : intL c10 = c10D := by
  unfold intL c10
  simp only [List.map]
theorem c10_len : c10D.length ≤ sizeLine := sz (by kernel_rfl)
/-- the law's numbers, of whatever expressions -/
theorem ev_numbers {e1 e2 e3 e4 : Expr} {p1 p2 p3 p4 pos : Pos} {es : List Int} (hz : es.length ≤ 63) (h1 : EV prg w hk H n F look e1 (.list (intL es))) (h2 : EV prg w hk H n F look e2 (.int 14)) (h3 : EV prg w hk H n F look e3 (.list c10D)) (h4 : EV prg w hk H n F look e4 (.int ((intL es).length : Int))) :
    EV prg w hk H n F look (.BinOp (.Subscript e1 (.Slice Option.none (some e2) Option.none p1) p2) .Add (.Subscript e3 (.Slice (some e4) Option.none Option.none p3) p4) pos) (.list (intL (numsOf es))) := by
  have hz1 : (intL es).length ≤ sizeLine := by rw [intL_len]; exact Nat.le_trans hz (by decide)
  have e1 : (intL es).take 14 ++ c10D.drop (intL es).length = intL (numsOf es) := by
    rw [← c10_eq, intL_take, intL_drop, intL_app, intL_len]; rfl
  rw [← e1]
  refine EV.bin (EV.sliceUpto (k := 14) h1 h2 hz1) (EV.sliceFrom (k := (intL es).length) (xs := c10D) h3 h4 c10_len) (BIN.addL ?_)
  rw [List.length_take, List.length_drop, ← c10_eq, intL_len, intL_len]
  exact Nat.le_trans (show _ ≤ 30 by rw [show c10.length = 10 from rfl]; omega) (by decide)
/-- the law's numbers -/
theorem law_begin (X : Env2 w H) {es : List Int} (hz : es.length ≤ 63) : EX prg w (hkW w) H 50 (lawF w) ["without"] (fun z => ((["script"] : List Str).zip [.list (intL es)]).lookup z) [] ((bodyOf (fdOf (KK w) 517)).take 5) lawBegun := by
  have X0 := X.toEnv0
  have a3 : ∀ {es2 : List Expr} {pos : Pos}, ES prg w (hkW w) H 50 (lawF w) (fun z => ((["script"] : List Str).zip [.list (intL es)]).lookup z) es2 c10D → EV prg w (hkW w) H 50 (lawF w) (fun z => ((["script"] : List Str).zip [.list (intL es)]).lookup z) (.List es2 pos) (.list c10D) := fun h => EV.list h c10_len
  refine EX.assign (ev_numbers hz ?_ ?_ ?_ ?_) ?_
  · exact EV.name rfl
  · exact EV.int
  · refine a3 ?_
    iterate 10 refine ES.icons ?_
    exact ES.nil
  · exact EV.callF (EV.bk X0) (.cons (EV.name rfl) .nil) .nil KP.blt (FN.lenList (by rw [intL_len]; omega))
  obtain ⟨l1, l2⟩ := nums_len (es := es)
  revert l1 l2
  generalize numsOf es = nums
  intro l1 l2
  match nums, l1, l2 with
  | x0 :: x1 :: x2 :: r, l1, l2 =>
    obtain ⟨j, hj, ej⟩ := fm3 x1
    have hwo : ∃ wo : Str, (wo = "" ∨ wo = "p" ∨ wo = "q") ∧ ([.str "", .str "p", .str "q"] : List PD)[j]? = some (.str wo) := by
      match j, hj with
      | 0, _ => exact ⟨"", .inl rfl, rfl⟩
      | 1, _ => exact ⟨"p", .inr (.inl rfl), rfl⟩
      | 2, _ => exact ⟨"q", .inr (.inr rfl), rfl⟩
    obtain ⟨wo, hw1, hw2⟩ := hwo
    exact law_three X rfl l2 hj ej hw1 hw2
end
end Mine
end

section -- V5
open PySem PySem.Calls PySem.W PyProof.Rows PySem.SeqAt PySem.MeetsSeq
set_option maxRecDepth 100000
set_option linter.unusedVariables false
namespace Mine
mutual
theorem tell_congr {keep tn : Bool} {wo wo' : Str → Bool} (hp : wo "p" = wo' "p") (hq : wo "q" = wo' "q") : ∀ t, tell keep wo tn t = tell keep wo' tn t
  | .n i => by rw [tell, tell]
  | .t x => by rw [tell, tell]
  | .z => by rw [tell, tell]
  | .l ts => by rw [tell, tell, tellL_congr hp hq ts]
  | .u ts => by rw [tell, tell, tellL_congr hp hq ts]
  | .o a b => by rw [tell, tell, tell_congr hp hq a, tell_congr hp hq b, hp, hq]
  | .d ks ts => by rw [tell, tell, tellL_congr hp hq ts]
theorem tellL_congr {keep tn : Bool} {wo wo' : Str → Bool} (hp : wo "p" = wo' "p") (hq : wo "q" = wo' "q") : ∀ ts, tellL keep wo tn ts = tellL keep wo' tn ts
  | [] => by rw [tellL, tellL]
  | x :: r => by rw [tellL, tellL, tell_congr hp hq x, tellL_congr hp hq r]
end
section
variable {w : World} {H : Heap} {n : Nat} {k : Addr} {u v d1 d2 d : PD} {F : Fm} {look : Look} {hk : PD → Int} {kp tn : Bool} {wo : Str} {a b : T} {l : Look}
theorem ne_tell (X : Env0 (KK w) H) (ha : ht a ≤ 2) (hb : ht b ≤ 2) (wa : WT a) (wb : WT b) {wo : Str → Bool} : RCJ prg w (hkW w) H 50 .NotEq (tell kp wo tn (.o a b)) false := by
  rw [tell]
  refine RCJ.le (n := 13) (RCJ.dict (.inr ⟨rfl, rfl⟩) row_self fun x hx => ?_) (by decide)
  have : x.2 = tell kp wo tn a ∨ x.2 = tell kp wo tn b := by
    rcases List.mem_append.mp hx with hx | hx
    · split at hx
      · rw [List.mem_singleton.mp hx]; exact .inl rfl
      · cases hx
    · split at hx
      · rw [List.mem_singleton.mp hx]; exact .inr rfl
      · cases hx
  rcases this with e | e <;> rw [e]
  · exact (eq_tell X 2 a ha wa).2
  · exact (eq_tell X 2 b hb wb).2
theorem ne_tupT (X : Env0 (KK w) H) (ha : ht a ≤ 2) (hb : ht b ≤ 2) (wa : WT a) (wb : WT b) {wo : Str → Bool} : RCJ prg w (hkW w) H 50 .NotEq (tupT kp k wo (.o a b)) false := by
  rw [tupT]
  refine RCJ.le (n := 13) (RCJ.tupNe fun x hx => ?_) (by decide)
  have : x = tupT kp k wo a ∨ x = tupT kp k wo b := by
    unfold rowT at hx
    rcases List.mem_append.mp hx with hx | hx
    · split at hx
      · exact .inl (List.mem_singleton.mp hx)
      · cases hx
    · split at hx
      · exact .inr (List.mem_singleton.mp hx)
      · cases hx
  rcases this with e | e <;> rw [e]
  · exact (eq_tupT X 2 a wo ha wa).2
  · exact (eq_tupT X 2 b wo hb wb).2
/-- the hook of the call, or none -/
noncomputable def svOf (w : World) (tn : Bool) : PD := if tn then .clo (turnFp w) Option.none else .val .none
theorem ser_of (X : Env0 (KK w) H) : Ser w H (svOf w tn) tn := by
  cases tn with
  | true => exact ser_turn X
  | false => exact Ser.none0
theorem ev_ser (h1 : l "turned" = some (.val (.bool tn))) (h2 : l "turn" = some (.clo (turnFp w) Option.none)) {p1 p2 p3 pos : Pos} {kk : Nat} : EV prg w (hkW w) H n F l (.IfExp (.Name "turned" p1) (.Name "turn" p2) (.Constant .none kk p3) pos) (svOf w tn) := by
  cases tn with
  | true => exact EV.ifT (ET.val (EV.name h1) (.bool _)) (EV.name h2)
  | false => exact EV.ifF (ET.val (EV.name h1) (.bool _)) EV.none
/-- what the names bear, once the defs in the law are made -/
structure LawM (w : World) (l : Look) (kp tn : Bool) (wo : Str) (a b : T) (k : Addr) : Prop extends LawL l kp tn wo a b k where
  left : l "left_in" = some (.clo (leftFp w) (some ("without", wo)))
  turn : l "turn" = some (.clo (turnFp w) Option.none)
theorem LawM.upd (h : LawM w l kp tn wo a b k) {x : Str} {d0 : PD} (hx : x ∉ (["keep", "without", "turned", "parts", "made", "left_in", "turn"] : List Str)) : LawM w (upd l x d0) kp tn wo a b k := by
  have ne : ∀ y ∈ (["keep", "without", "turned", "parts", "made", "left_in", "turn"] : List Str), Mine.upd l x d0 y = l y := fun y hy => by
    unfold Mine.upd
    exact if_neg (by intro e; subst e; exact hx hy)
  exact ⟨⟨(ne _ (by simp)).trans h.keep, (ne _ (by simp)).trans h.without, (ne _ (by simp)).trans h.turned, (ne _ (by simp)).trans h.parts, (ne _ (by simp)).trans h.made⟩, (ne _ (by simp)).trans h.left, (ne _ (by simp)).trans h.turn⟩
theorem ht_o (ha : ht a ≤ 2) (hb : ht b ≤ 2) : ht (.o a b) ≤ 3 := by rw [ht]; omega
theorem wt_o (wa : WT a) (wb : WT b) : WT (.o a b) := by rw [WT]; exact ⟨wa, wb⟩
theorem laidZ_o : laidZ k (.o a b) = .obj k (laidZ k a) (laidZ k b) := by rw [laidZ]
theorem drawP_o : drawP (.o a b) = .tup [.str "o", .list [drawP a, drawP b]] := by rw [drawP]
/-- a name that bears the object laid out -/
theorem ev_laid {x : Str} {px : Pos} (h : l x = some (laidZ k (.o a b))) (hd : (x == ("__debug__" : Str)) = false := by decide) : EV prg w (hkW w) H n F l (.Name x px) (laid k (.o a b)) := EV.weak (EV.name h hd) fun L v i => i.unz
theorem ev_parts (hp : l "parts" = some (.list [drawP a, drawP b])) {p1 p2 : Pos} {k1 k2 : Nat} {pos : Pos} : EV prg w (hkW w) H n F l (.Tuple [.Constant (.str "o") k1 p1, .Name "parts" p2] k2 pos) (drawP (.o a b)) := by
  rw [drawP_o]
  exact EV.tup (.cons EV.str (.cons (EV.name hp) .nil)) (sz rfl)
/-- the object told as a table -/
theorem ev_told (X : Env2 w H) (D : Drawn wo a b) (M : LawM w l kp tn wo a b k) (h1 : l "one" = some (laidZ k (.o a b))) {p1 p2 p3 p4 p5 p6 p7 p8 p9 q1 q2 pos : Pos} {kk : Nat} :
    EV prg w (hkW w) H 50 (lawF w) l (.Call (.Name "asdict" p1) [.Name "one" p2] [⟨some "filter", .Name "left_in" p3, p4⟩, ⟨some "retain_collection_types", .Name "keep" p5, p6⟩, ⟨some "value_serializer", .IfExp (.Name "turned" p7) (.Name "turn" p8) (.Constant .none kk p9) q1, q2⟩] pos) (tell kp (woF wo) tn (.o a b)) :=
  have X0 := X.toEnv0
  EV.callF (EV.gk X0) (.cons (ev_laid h1) .nil) (.cons (EV.name M.left) (.cons (EV.name M.keep) (.cons (ev_ser M.turned M.turn) .nil))) (KP.Kk X0) (FN.le (asdict_top X.toEnv1 (m := 2) (ser_of X0) (wan_left X0) (ht_o D.2.2.2.1 D.2.2.2.2) (wt_o D.2.1 D.2.2.1)) (by decide))
/-- the two objects, the table and the row told -/
def lawTold (w : World) (kp tn : Bool) (wo : Str) (a b : T) (k : Addr) : Goal := ⟨fun l o => LawM w l kp tn wo a b k ∧ l "one" = some (laidZ k (.o a b)) ∧ l "again" = some (laidZ k (.o a b)) ∧ o = [], fun _ _ => False, fun _ _ => False⟩
theorem law_told (X : Env2 w H) (D : Drawn wo a b) (M : LawM w l kp tn wo a b k) : EX prg w (hkW w) H 50 (lawF w) [] l [] (((bodyOf (fdOf (KK w) 517)).drop 7).take 4) (lawTold w kp tn wo a b k) := by
  have X0 := X.toEnv0
  have hh := ht_o D.2.2.2.1 D.2.2.2.2
  have hw := wt_o D.2.1 D.2.2.1
  have ls : FN prg w (hkW w) H 50 (.val (.ref 500)) [drawP (.o a b), .kind k] [] (laidZ k (.o a b)) := FN.le (laid_spec X0 3 (.o a b) hh hw) (by decide)
  refine EX.unpackS (xs := [("one", _), ("again", _)]) (ds := [laidZ k (.o a b), laidZ k (.o a b)]) (EV.tup (.cons (EV.callF (EV.gk X0) (.cons (ev_parts M.parts) (.cons (EV.name M.made) .nil)) .nil (KP.Kk X0) ls) (.cons (EV.callF (EV.gk X0) (.cons (ev_parts M.parts) (.cons (EV.name M.made) .nil)) .nil (KP.Kk X0) ls) .nil)) (sz rfl)) ?_ ?_
  · have M2 : LawM w (upd (upd l "again" (laidZ k (.o a b))) "one" (laidZ k (.o a b))) kp tn wo a b k := (M.upd (by decide)).upd (by decide)
    refine EX.assign (ev_told X D M2 rfl) ?_
    have M3 : LawM w (upd (upd (upd l "again" (laidZ k (.o a b))) "one" (laidZ k (.o a b))) "told" (tell kp (woF wo) tn (.o a b))) kp tn wo a b k := M2.upd (by decide)
    refine EX.ifF (ET.bool (EB.orF (ET.cmp (EV.name rfl) (EV.callF (EV.gk X0) (.cons (ev_parts M3.parts) (.cons (EV.name M3.keep) (.cons (EV.name M3.without) (.cons (EV.name M3.turned) .nil)))) .nil (KP.Kk X0) (FN.le (table_spec X0 3 (.o a b) hh hw) (by decide))) (CMP.ofNe (ne_tell X0 D.2.2.2.1 D.2.2.2.2 D.2.1 D.2.2.1))) (EB.orF (ET.cmp (ev_told X D M3 rfl) (EV.name rfl) (CMP.ofNe (ne_tell X0 D.2.2.2.1 D.2.2.2.2 D.2.1 D.2.2.1))) EB.orNil))) (EX.nil ?_)
    refine EX.ifF (ET.cmp (EV.callF (EV.gk X0) (.cons (ev_laid rfl) .nil) (.cons (EV.name M3.left) (.cons (EV.name M3.keep) .nil)) (KP.Kk X0) (FN.le (astuple_top X.toEnv1 (m := 2) (wan_left X0) hh hw) (by decide))) (EV.callF (EV.gk X0) (.cons (ev_parts M3.parts) (.cons (EV.name M3.made) (.cons (EV.name M3.keep) (.cons (EV.name M3.without) .nil)))) .nil (KP.Kk X0) (FN.le (tuple_spec X0 3 (.o a b) wo hh hw) (by decide))) (CMP.ofNe (ne_tupT X0 D.2.2.2.1 D.2.2.2.2 D.2.1 D.2.2.1))) (EX.nil ?_)
    exact EX.nil ⟨M3, rfl, rfl, rfl⟩
  · intro z hz; refine .inl ?_
    simp only [List.map, List.reverse_cons, List.reverse_nil, List.nil_append, List.cons_append, List.mem_cons, List.not_mem_nil, or_false] at hz
    rcases hz with rfl | rfl <;> rfl
end
end Mine
end

section -- V6
open PySem PySem.Calls PySem.W PyProof.Rows PySem.SeqAt PySem.MeetsSeq
set_option maxRecDepth 100000
set_option linter.unusedVariables false
namespace Mine
section
variable {w : World} {H : Heap} {n : Nat} {k : Addr} {F : Fm} {look : Look} {hk : PD → Int} {kp tn : Bool} {wo : Str} {a b : T} {l : Look} {A : Around} {B : Bs} {s s' : Shared} {L L' : Led} {env : Env} {vp vq : Value} {G : Goal}
abbrev lawNm : Nat → Str := fun l => if l == 531 then Str.ofString "law.<locals>.left_in" else Str.ofString "law.<locals>.turn"
theorem left_D (X : Env2 w H) : DefOk (KK w) H (lawF w) "left_in" (leftFp w).params (match (leftFp w).body with | .stmts b => b | _ => []) (leftFp w).scope ((bodyOf (fdOf (KK w) 517)).getD 5 (.Pass ⟨0, 0, 0, 0⟩)).pos (leftFp w) (codeOf (fdOf (KK w) 517)) 512 lawNm where
  code := rfl
  tab := X.t517
  np := by decide
  sp := .tail _ (.head _)
  qn := ⟨_, rfl, fun env h1 h2 => by
    obtain ⟨sc, a1, a2, a3, a4, a5, a6, a7, a8⟩ := env
    dsimp only at h1 h2
    subst h1 h2
    kernel_rfl⟩
  fp := ⟨rfl, rfl, rfl, rfl, rfl⟩
  d0 := rfl
  k0 := rfl
  an := fun env => rfl
theorem turn_D (X : Env2 w H) : DefOk (KK w) H (lawF w) "turn" (turnFp w).params (match (turnFp w).body with | .stmts b => b | _ => []) (turnFp w).scope ((bodyOf (fdOf (KK w) 517)).getD 6 (.Pass ⟨0, 0, 0, 0⟩)).pos (turnFp w) (codeOf (fdOf (KK w) 517)) 512 lawNm where
  code := rfl
  tab := X.t517
  np := by decide
  sp := .tail _ (.head _)
  qn := ⟨_, rfl, fun env h1 h2 => by
    obtain ⟨sc, a1, a2, a3, a4, a5, a6, a7, a8⟩ := env
    dsimp only at h1 h2
    subst h1 h2
    kernel_rfl⟩
  fp := ⟨rfl, rfl, rfl, rfl, rfl⟩
  d0 := rfl
  k0 := rfl
  an := fun env => rfl
/-- told not deep -/
def lawFlat (k : Addr) (vp vq : Value) (a b : T) : Goal := ⟨fun l o => l "flat" = some (.dict [(.str "p", .val vp), (.str "q", .val vq)]) ∧ l "row" = some (.tup [.val vp, .val vq]) ∧ l "one" = some (.obj k (.val vp) (.val vq)) ∧ l "again" = some (laidZ k (.o a b)) ∧ l "parts" = some (.list [drawP a, drawP b]) ∧ o = [], fun _ _ => False, fun _ _ => False⟩
theorem law_flat (X : Env2 w H) (h1 : l "one" = some (.obj k (.val vp) (.val vq))) (h2 : l "again" = some (laidZ k (.o a b))) (h3 : l "parts" = some (.list [drawP a, drawP b])) : EX prg w (hkW w) H 50 (lawF w) [] l [] ((((bodyOf (fdOf (KK w) 517)).drop 7).drop 4).take 1) (lawFlat k vp vq a b) := by
  have X0 := X.toEnv0
  refine EX.unpackS (xs := [("flat", _), ("row", _)]) (ds := [.dict [(.str "p", .val vp), (.str "q", .val vq)], .tup [.val vp, .val vq]]) (EV.tup (.cons (EV.callF (EV.gk X0) (.cons (EV.name h1) .nil) (.cons EV.bool .nil) (KP.Kk X0) (asdict_flat X.toEnv1)) (.cons (EV.callF (EV.gk X0) (.cons (EV.name h1) .nil) (.cons EV.bool .nil) (KP.Kk X0) (astuple_flat X.toEnv1)) .nil)) (sz rfl)) (EX.nil ⟨rfl, rfl, h1, h2, h3, rfl⟩) ?_
  intro z hz; refine .inl ?_
  simp only [List.map, List.reverse_cons, List.reverse_nil, List.nil_append, List.cons_append, List.mem_cons, List.not_mem_nil, or_false] at hz
  rcases hz with rfl | rfl <;> rfl
/-- the law, run -/
theorem law_run (X : Env2 w H) {es : List Int} (hz : es.length ≤ 63) (ok : Ok 50 A) (hB : ∀ a, H.get? a = Option.none → B.own a) (st : St (hkW w) H B (lawF w) ["without"] env (fun z => ((["script"] : List Str).zip [.list (intL es)]).lookup z) [] L s) :
    wpAny (model prg w) A (execs (bodyOf (fdOf (KK w) 517)) env) (fun f s' => f = .ret (.bool true) ∧ PureX H B.X B.s₀ s') (fun _ _ => False) s := by
  have X0 := X.toEnv0
  rw [← List.take_append_drop 5 (bodyOf (fdOf (KK w) 517))]
  refine raw_segS (law_begin X hz) ok st fun l o L₁ s₁ hP sub₁ st₁ => ?_
  obtain ⟨kp, tn, wo, a, b, k, M, rfl, D⟩ := hP
  obtain ⟨L₂, c, oc, t, hc, hL, hd, st₂, sub₂⟩ := st₁.seal (wc' := []) (x := "without") (y := wo) (by simp) rfl M.without (fun z hz => nomatch hz)
  refine wpAny_execs_cons (exec_defin (fr := some ("without", wo)) X0 (left_D X) (.inl rfl) ok.handled st₂ (fun c' oc' x g1 g2 g3 => .inr (hB c' g2)) ⟨rfl, c, oc, t, hc, hL, hd⟩ fun s₃ L₃ sub₃ st₃ => ?_)
  refine wpAny_execs_cons (exec_defin (fr := Option.none) X0 (turn_D X) (.inl rfl) ok.handled st₃ (fun c' oc' x g1 g2 g3 => .inr (hB c' g2)) rfl fun s₄ L₄ sub₄ st₄ => ?_)
  have M4 : LawM w (upd (upd l "left_in" (.clo (leftFp w) (some ("without", wo)))) "turn" (.clo (turnFp w) Option.none)) kp tn wo a b k := ⟨(M.upd (by decide)).upd (by decide), rfl, rfl⟩
  revert M4 st₄
  generalize upd (upd l "left_in" (.clo (leftFp w) (some ("without", wo)))) "turn" (.clo (turnFp w) Option.none) = l4
  intro st₄ M4
  show wpAny _ _ (execs ((bodyOf (fdOf (KK w) 517)).drop 7) env) _ _ s₄
  rw [← List.take_append_drop 4 ((bodyOf (fdOf (KK w) 517)).drop 7)]
  refine raw_segS (law_told X D M4) ok st₄ fun l5 o L₅ s₅ hP sub₅ st₅ => ?_
  obtain ⟨M5, h1, h2, rfl⟩ := hP
  -- the one object's very values
  obtain ⟨v, r, iv⟩ := st₅.pre.view _ _ h1
  rw [laidZ_o] at iv
  obtain ⟨vp, vq, ip, iq, iv'⟩ := iv.split
  have st₆ : St (hkW w) H B (lawF w) [] env (upd l5 "one" (.obj k (.val vp) (.val vq))) [] L₅ s₅ := by
    refine { st₅ with pre := { st₅.pre with view := fun z dz e => ?_ } }
    unfold upd at e
    split at e
    · rename_i hz
      obtain rfl := Option.some.inj e
      exact ⟨v, hz ▸ r, iv'⟩
    · exact st₅.pre.view z dz e
  rw [← List.take_append_drop 1 (((bodyOf (fdOf (KK w) 517)).drop 7).drop 4)]
  refine raw_segS (law_flat (l := upd l5 "one" (.obj k (.val vp) (.val vq))) X rfl h2 M5.parts) ok st₆ fun l7 o L₇ s₇ hP sub₇ st₇ => ?_
  obtain ⟨g1, g2, g3, g4, g5, rfl⟩ := hP
  have hh := ht_o D.2.2.2.1 D.2.2.2.2
  have hw := wt_o D.2.1 D.2.2.1
  have el : laid k (.o a b) = .obj k (laid k a) (laid k b) := by rw [laid]
  have et : tell false (woF "") false (.o a b) = tell false (fun _ => true) false (.o a b) := tell_congr (by decide) (by decide) _
  have eva : ∀ {px : Pos}, EV prg w (hkW w) H 50 (lawF w) (upd l7 "row" (.tup [laid k a, laid k b])) (.Name "again" px) (.obj k (laid k a) (laid k b)) := fun {px} => el ▸ ev_laid (l := upd l7 "row" (.tup [laid k a, laid k b])) g4
  refine raw_ifF (T := L₅) (n := 50) (EBT.orF (ET.cmp (EV.callF (EV.bk X0) (.cons (EV.name g1) .nil) .nil KP.type (FN.listDict (xs := [("p", .val vp), ("q", .val vq)]) (show ([("p" : Str), "q"] : List Str).Nodup by decide) (by show 2 ≤ sizeLine; decide))) (EV.list (ds := [.str "p", .str "q"]) (.cons EV.str (.cons EV.str .nil)) (sz rfl)) (CMP.ofNe (RCJ.listNe (n := 49) fun d hd => ?_))) (EBT.orF (ET.cmp (EV.sub (EV.name g1) EV.str (GI.dict (i := 0) (by decide) (.of (by rfl)) rfl)) (EV.sub (EV.name g2) EV.int (GI.tup (k := 0) rfl)) (CMP.isNotSelf ip.selfOk)) (EBT.orF (ET.cmp (EV.sub (EV.name g1) EV.str (GI.dict (i := 1) (by decide) (.of (by rfl)) rfl)) (EV.sub (EV.name g2) EV.int (GI.tup (k := 1) rfl)) (CMP.isNotSelf iq.selfOk)) (EBT.view (y := "row") (d' := .tup [laid k a, laid k b]) g2 (fun L v hT i => i.joinT ((ip.mono hT).unz) ((iq.mono hT).unz)) (EB.orF (ET.cmp (EV.name rfl) (EV.callF (EV.gk X0) (.cons eva .nil) (.cons EV.bool .nil) (KP.Kk X0) (astuple_flat X.toEnv1)) (CMP.ofNe (RCJ.le (n := 13) (RCJ.tupNe fun d hd => ?_) (by decide)))) EB.orNil))))) sub₇ ok st₇ fun L₈ s₈ sub₈ st₈ => ?_
  · have hd : d ∈ ([.str "p", .str "q"] : List PD) := hd
    simp only [List.mem_cons, List.not_mem_nil, or_false] at hd
    rcases hd with rfl | rfl <;> exact .str
  · simp only [List.mem_cons, List.not_mem_nil, or_false] at hd
    rcases hd with rfl | rfl
    · exact EQJ.le (eq_laid X0 2 a D.2.2.2.1 D.2.1).2 (by decide)
    · exact EQJ.le (eq_laid X0 2 b D.2.2.2.2 D.2.2.1).2 (by decide)
  have up : ∀ a o, L₅ a o → L₈ a o := fun a o e => sub₈ _ _ (sub₇ _ _ e)
  have st₉ := st₈.relook (y := "one") (d' := laid k (.o a b)) g3 (fun v i => el ▸ i.join ((ip.mono up).unz) ((iq.mono up).unz))
  refine raw_ret (n := 50) (EV.and2T (EV.cmp (EV.name rfl) (ev_laid (l := upd l7 "one" (laid k (.o a b))) g4) (CMP.ofEq (RCJ.le (eq_laid X0 3 (.o a b) hh hw).1 (by decide)))) (.bool true) (EV.cmp (EV.callF (EV.gk X0) (.cons (ev_laid (l := upd l7 "one" (laid k (.o a b))) g4) .nil) .nil (KP.Kk X0) (FN.le (asdict_plain X.toEnv1 (m := 2) hh hw) (by decide))) (EV.callF (EV.gk X0) (.cons (ev_parts (l := upd l7 "one" (laid k (.o a b))) g5) (.cons EV.bool (.cons EV.str (.cons EV.bool .nil)))) .nil (KP.Kk X0) (et ▸ FN.le (table_spec X0 3 (.o a b) hh hw) (by decide))) (CMP.ofEq (RCJ.le (eq_tell X0 3 (.o a b) hh hw).1 (by decide))))) ok st₉ fun v L' s' st' iv => ?_
  cases iv
  exact ⟨rfl, st'.pure⟩
end
end Mine
end

section -- V7
open PySem PySem.Calls PySem.W PyProof.Rows PySem.SeqAt PySem.MeetsSeq
set_option maxRecDepth 100000
set_option linter.unusedVariables false
namespace Mine
/-- what the top's names bear -/
theorem glob_of {K : Frag} {H : Heap} (X : K.In H) (h : nsOk K = true) : H.Ns mainGlobals (mgK K) := by
  unfold nsOk at h
  split at h
  · rename_i o ho
    split at h
    · rename_i es ep hd
      refine ⟨o, es, ep, X _ _ ho, hd, fun e he => ?_, fun name => ?_⟩
      · obtain ⟨i, hi, rfl⟩ := Array.mem_iff_getElem.mp he
        have := Array.all_eq_true.mp h i hi
        unfold isStrV at this
        split at this
        · rename_i q t hq; exact ⟨q, t, hq⟩
        · cases this
      · unfold mgK nsK; rw [ho]; dsimp only; rw [hd]
    · cases h
  · cases h
section
variable {w : World} {H : Heap} {A : Around} {s : Shared} {L : Led}
theorem solid_K : solidK (KK w) = true := by kernel_rfl
theorem ns_K : nsOk (KK w) = true := by kernel_rfl
theorem tab_of {c P : Addr} (X : (KK w).In H) (e : codeHdIn (KK w) c P = true) (ht : H.get? P = some (tabObj #[])) : ∃ ps, H.IsCode c P ps ∧ H.TableAt c P ps :=
  have ch := codeHd_of_K X e
  ⟨#[], ch.code ht trivial, ch.tab ht⟩
theorem env_of {p : Program} {loose : List Str} {mean : ExcName → Option Value} {mg mb : Str → Option Value} (X : (KK w).In H) (T : Top p loose mean mg mb H) (ht : ∀ P ∈ ([469, 474, 480, 440, 238, 512] : List Addr), H.get? P = some (tabObj #[])) : Env2 w H := by
  have hg : mg = mgK (KK w) := Ns.unique T.g (glob_of X ns_K)
  have np : ∀ P : Addr, (P == 469 || P == 474 || P == 480) = true → NP P := fun P h => by
    simp only [Bool.or_eq_true, beq_iff_eq] at h
    refine ⟨?_, fun q hq => ?_⟩
    · rcases h with (rfl | rfl) | rfl <;> decide
    · simp only [List.mem_cons, List.not_mem_nil, or_false] at hq
      rcases hq with rfl | rfl <;> rcases h with (rfl | rfl) | rfl <;> decide
  refine ⟨⟨⟨⟨X, solid_K, by kernel_rfl, by kernel_rfl, by kernel_rfl⟩, ns_K, ⟨mb, T.b, T.builtins⟩, ?_⟩, ⟨474, np _ rfl, ?_⟩, ⟨469, np _ rfl, ?_⟩, ⟨480, np _ rfl, ?_⟩⟩, ?_, ?_⟩
  · obtain ⟨bm, ob, h1, h2⟩ := T.bmain
    exact ⟨bm, ob, hg ▸ h1, h2⟩
  · exact tab_of X (by kernel_rfl) (ht _ (by simp))
  · exact tab_of X (by kernel_rfl) (ht _ (by simp))
  · exact tab_of X (by kernel_rfl) (ht _ (by simp))
  · exact tab_of X (by kernel_rfl) (ht _ (by simp))
  · exact tab_of X (by kernel_rfl) (ht _ (by simp))
theorem inv_of {p : Program} {loose : List Str} {mean : ExcName → Option Value} {mg mb : Str → Option Value} (T : Top p loose mean mg mb H) (hi : importsNone p = true) (ht : ∀ P ∈ ([469, 474, 480, 440, 238, 512] : List Addr), H.get? P = some (tabObj #[])) : Inv H H where
  old := ⟨fun b o e => .inl e, fun b o e => ⟨o, e⟩⟩
  kept := .refl _
  tabs := fun c P e _ => e
  lim := T.nolimit
  limH := T.nolimit
  sysm := let ⟨mm, ⟨o, _, _, ho, _⟩, _⟩ := (T.seer hi).mods; ⟨o, ho⟩
  spec := fun q hq => by
    have hP : H.get? q.1 = some (tabObj #[]) := by
      simp only [List.mem_cons, List.not_mem_nil, or_false] at hq
      rcases hq with rfl | rfl
      · exact ht 238 (by simp)
      · exact ht 512 (by simp)
    exact ⟨⟨_, hP⟩, #[], hP, trivial, fun pos cv e => nomatch e⟩
/-- the law, called -/
theorem law_call (X : Env2 w H) (ok : Ok 51 A) (inv : Inv H s.heap) (hB : ∀ a, H.get? a = none → s.heap.get? a = none) {sc : Addr} {o : Obj} {vs : Array Value} {nn : Nat} {es : List Int} (ho : s.heap.get? sc = some o) (hc : o.cls = .type "list") (hd : o.data = .seq vs nn) (hv : ∀ L, IsAll (hkW w) L vs.toList (intL es)) (hsys : (sc == sysModules) = false) (hz : es.length ≤ 63) :
    wpAny (model prg w) A (PySem.call (Value.ref 517) [Value.ref sc] []) (fun v s' => v = .bool true ∧ Pure H s s') (fun _ _ => False) s := by
  have D := DefAt.ofK (a := 517) X.at_ (by rfl)
  obtain ⟨of, hof, hcf, hdf⟩ := D.obj
  obtain ⟨oc, vc, tc, e1, e2, e3, e4, e5⟩ := D.code
  have led : Holds H (fun a o' => a = sc ∧ o' = o) s.heap := fun a o' e => by
    obtain ⟨rfl, rfl⟩ := e
    exact ⟨ho, .inl (by rw [hc]; simp), hsys⟩
  have iv : Is (hkW w) (fun a o' => a = sc ∧ o' = o) (.ref sc) (.list (intL es)) := .list ⟨rfl, rfl⟩ hc hd (hv _)
  refine wpAny_call (codeAny_call_function ok.room (inv.get hof hcf) hdf D.co D.gen D.body ⟨_, oc, vc, tc, e1, inv.get e2 e3, e4, e5⟩ ?_)
  rw [show bindArgs (fdOf (KK w) 517) ⟨[Value.ref sc], []⟩ = (pure [(("script" : Str), Value.ref sc)] : Sem (List (Str × Value))) by kernel_rfl]
  refine wpAny_pure ?_
  rw [D.clo]
  refine wpAny_newFunctionEnv_cells D.kind (fun x hx => ?_) fun env he s' ic => ⟨?_, codeAny_func ?_⟩
  · rw [List.mem_singleton.mp hx]; exact .inl rfl
  · obtain ⟨h', tk, rfl, hkp⟩ := ic.done
    exact inv.lim.keeps hkp
  · have st := FN.begin (q := some ((fdOf (KK w) 517).qualname ++ ".<locals>.")) (wc := ["without"]) (names := ["script"]) (ds := [.list (intL es)]) D.kind D.free D.glob D.blt e1 inv led rfl (.cons iv .nil) (by decide) (fun x hx => by rw [List.mem_singleton.mp hx]; exact .inl rfl) (by subst he; exact ⟨⟨rfl, rfl, rfl, rfl, rfl⟩, rfl⟩) ic (fun z e => by
      have e9 : env.qual = (fdOf (KK w) 517).qualname ++ ".<locals>." := by rw [he]; rfl
      exact e9.trans (Option.some.inj e))
    refine wpAny_mono (law_run X hz (ok.deeper env) (fun a e => .inl (hB a e)) st) (fun f s₂ e => ?_) fun _ _ f => f.elim
    obtain ⟨rfl, q⟩ := e
    exact ⟨rfl, q.pure fun a e => e.elim⟩
theorem ints_of {hk : PD → Int} (L : Led) : ∀ {vs : List Value} {es : List Int}, IntsAre vs es → IsAll hk L vs (intL es)
  | _, _, .nil => .nil
  | _, _, .cons n t r => .cons (.int n t) (ints_of L r)
end
end Mine
end

section -- V8
open PySem PySem.Calls PySem.W PyProof.Rows PySem.SeqAt PySem.MeetsSeq
set_option maxRecDepth 100000
set_option linter.unusedVariables false
namespace Mine
theorem law_holds : PySem.Challenge.rw_vc0019_01.Holds := by
  refine hd ?_
  intro w s₀ s₁ mg mb G Y fa o pm cd doc dV kV ho hd' hcd hD hmg hg args vals as hpre hlay hrd hwl hlo
  have KX : (KK w).In s₁.heap := km_in_of Y
  have hT : ∀ P ∈ ([469, 474, 480, 440, 238, 512] : List Addr), s₁.heap.get? P = some (tabObj #[]) := km_tabs_of Y
  have T := G.T
  have X : Env2 w s₁.heap := env_of KX T hT
  have inv : Inv s₁.heap s₁.heap := inv_of T (by rfl) hT
  have hfa : fa = 517 := by
    have e : mgK (KK w) "law" = some (.ref 517) := by kernel_rfl
    have e2 : mg "law" = some (.ref fa) := hmg
    rw [Ns.unique T.g (glob_of KX ns_K), e] at e2
    cases e2; rfl
  subst hfa
  clear Y hd' hD G hcd hmg KX hT
  wrow_args hpre hlay hrd hwl hlo
  rename Heap.IsList _ _ _ => hL
  rename IntsAre _ _ => hI
  rename ¬ _ => hc
  obtain ⟨ol, hol, hcl, nl, hdl⟩ := hL
  have hsys : ∀ b : Addr, s₁.heap.get? b = some ol → (b == sysModules) = false := fun b hb => by
    refine beq_eq_false_iff_ne.mpr fun q => ?_
    obtain ⟨mm, ⟨o2, es, ep, ho2, hd2, _⟩, _⟩ := (T.seer (by rfl)).mods
    rw [q, ho2] at hb
    cases hb
    rw [hd2] at hdl
    cases hdl
  refine wpAny_mono (law_call X ⟨rfl, by decide, by decide⟩ inv (fun _ h => h) hol hcl hdl (fun L => by rw [List.toList_toArray]; exact ints_of L hI) (hsys _ hol) (by omega)) (fun v s' e => ?_) (fun _ _ f => f.elim)
  obtain ⟨rfl, q⟩ := e
  exact ⟨.inl ⟨.bool true, .bool true, [], rfl, raisesW_false (by wrow_none_raised), .bool _, by wrow_post, fun _ => ⟨List.nodup_nil, fun a h => nomatch h⟩⟩, q.inv.old, q.os, q.bare (hg ▸ AllBare.empty)⟩
end Mine
end

theorem PySem.Challenge.cw_vc0019_01_holds : PySem.Challenge.rw_vc0019_01.Holds :=
  Mine.law_holds
