import PyProof.Rows.All
import Wide.All
import OpenK.AllK
import Wide.FinOn
import PySem.Challenge.RW_pk0088_01

open PySem PySem.W PyProof.Rows PySem.Calls
set_option Elab.async false
set_option maxRecDepth 100000
set_option linter.unusedVariables false
set_option maxHeartbeats 8000000

/-! Hd -/
namespace Mine
open_top hd for PySem.Challenge.rw_pk0088_01
end Mine

/-! Mb -/
namespace Mine

/-! the program's parts, by projection -/
abbrev PG : Program := PySem.Challenge.pw_pk0088_01
def stIn (l : List Stmt) (i : Nat) : Stmt := l.getD i (.Pass ⟨0, 0, 0, 0⟩)
def stAt (i : Nat) : Stmt := stIn PG.main.body i
def nameOf : Stmt → Str
  | .FunctionDef n .. => n
  | _ => Str.empty
def argsOf : Stmt → Arguments
  | .FunctionDef _ a .. => a
  | _ => ⟨[], [], none, [], [], none, []⟩
def bodyOf : Stmt → List Stmt
  | .FunctionDef _ _ b .. => b
  | _ => []
def scopeOf : Stmt → Scope
  | .FunctionDef _ _ _ _ _ _ s .. => s
  | _ => PG.main.scope
def posOf : Stmt → Pos
  | .FunctionDef _ _ _ _ _ _ _ _ _ p => p
  | _ => ⟨0, 0, 0, 0⟩

/-- a function's data: its text, its code object -/
def fdOf (st : Stmt) (doc pm cd ct : Value) : FuncData :=
  { name := nameOf st, qualname := nameOf st, params := argsOf st, body := .stmts (bodyOf st), scope := scopeOf st, globals := mainGlobals, closure := [],
    defaults := .none, kwdefaults := .none, doc := doc, pyModule := pm, annotations := none, code := cd, closureTuple := ct, builtins := builtinsNs }

/-! objects that a step may change are dull: no code table, no code object -/
def Dull (o : Obj) : Prop := ∀ vs, o.data = .fields vs → o.cls ≠ .none ∧ ∀ q t, vs[1]? ≠ some (Value.str q t)
theorem Dull.ne_tab {o : Obj} (d : Dull o) (ps : Array Value) : o ≠ tabObj ps := by
  rintro rfl
  exact (d ps rfl).1 rfl
theorem dull_seq {o : Obj} {xs n} (h : o.data = .seq xs n) : Dull o := fun vs e => by rw [h] at e; cases e
theorem dull_dict {o : Obj} {xs n} (h : o.data = .dict xs n) : Dull o := fun vs e => by rw [h] at e; cases e
theorem dull_cell {o : Obj} {v} (h : o.data = .cell v) : Dull o := fun vs e => by rw [h] at e; cases e
theorem dull_func {o : Obj} {v} (h : o.data = .func v) : Dull o := fun vs e => by rw [h] at e; cases e

/-- all is kept but empty tables that T names -/
def Ext (T : List Addr) (h h' : Heap) : Prop := ∀ b o, h.get? b = some o → (b ∈ T → o ≠ tabObj #[]) → h'.get? b = some o
theorem Ext.refl (T : List Addr) (h : Heap) : Ext T h h := fun _ _ e _ => e
theorem Ext.trans {T : List Addr} {h h' h'' : Heap} (x : Ext T h h') (y : Ext T h' h'') : Ext T h h'' := fun b o e n => y b o (x b o e n) n
theorem Ext.weaken {T T' : List Addr} {h h' : Heap} (x : Ext T h h') (hT : ∀ b ∈ T, b ∈ T') : Ext T' h h' := fun b o e n => x b o e fun hb => n (hT b hb)
theorem Ext.of_keeps {T : List Addr} {h h' : Heap} (k : ∀ b o, h.get? b = some o → h'.get? b = some o) : Ext T h h' := fun b o e _ => k b o e
theorem Ext.dull {T : List Addr} {h h' : Heap} (x : Ext T h h') {b : Addr} {o : Obj} (e : h.get? b = some o) (d : Dull o) : h'.get? b = some o := x b o e fun _ => d.ne_tab _
theorem Ext.ns {T : List Addr} {h h' : Heap} {a m} (x : Ext T h h') (n : h.Ns a m) : h'.Ns a m :=
  let ⟨o, es, ep, ho, hd, r⟩ := n; ⟨o, es, ep, x.dull ho (dull_dict hd), hd, r⟩
theorem Ext.codeRec {T : List Addr} {h h' : Heap} {cd q} (x : Ext T h h') (n : h.CodeRec cd q) : h'.CodeRec cd q := by
  obtain ⟨c, o, vs, t, e, ho, hd, hv⟩ := n
  refine ⟨c, o, vs, t, e, x c o ho fun _ q => ?_, hd, hv⟩
  subst q
  cases hd
  cases hv
theorem Ext.noLimit {T : List Addr} {h h' : Heap} (x : Ext T h h') (n : h.NoLimit) : h'.NoLimit := let ⟨mc, a, b⟩ := n; ⟨mc, x.ns a, b⟩
theorem Ext.codeHd {T : List Addr} {h h' : Heap} {c P : Addr} (x : Ext T h h') (n : CodeHd h c P) : CodeHd h' c P := by
  obtain ⟨o, vs, file, tf, flags, tg, inF, text, tt, ho, hc, r⟩ := n
  exact ⟨o, vs, file, tf, flags, tg, inF, text, tt, x c o ho (fun _ q => by subst q; cases hc), hc, r⟩
theorem Ext.builtinsAt {T : List Addr} {h h' : Heap} {mg P} (x : Ext T h h') (n : h.BuiltinsAt mg P) : h'.BuiltinsAt mg P := by
  obtain ⟨bm, o, h1, h2, h3, h4, h5, h6, r⟩ := n
  exact ⟨bm, o, h1, h2, h3, h4, x _ _ h5 (fun _ q => by subst q; cases h6), h6, r⟩

/-- all is kept but lists, tuples and empty tables -/
def ExtS (h h' : Heap) : Prop := ∀ b o, h.get? b = some o → o ≠ tabObj #[] → (∀ xs n, o.data ≠ .seq xs n) → h'.get? b = some o
theorem ExtS.ns {h h' : Heap} {a m} (x : ExtS h h') (n : h.Ns a m) : h'.Ns a m :=
  let ⟨o, es, ep, ho, hd, r⟩ := n; ⟨o, es, ep, x _ _ ho ((dull_dict hd).ne_tab _) (fun _ _ e => by rw [hd] at e; cases e), hd, r⟩
theorem ExtS.codeRec {h h' : Heap} {cd q} (x : ExtS h h') (n : h.CodeRec cd q) : h'.CodeRec cd q := by
  obtain ⟨c, o, vs, t, e, ho, hd, hv⟩ := n
  refine ⟨c, o, vs, t, e, x c o ho (fun q => ?_) (fun _ _ e => by rw [hd] at e; cases e), hd, hv⟩
  subst q
  cases hd
  cases hv
theorem ExtS.noLimit {h h' : Heap} (x : ExtS h h') (n : h.NoLimit) : h'.NoLimit := let ⟨mc, a, b⟩ := n; ⟨mc, x.ns a, b⟩
theorem ExtS.codeHd {h h' : Heap} {c P : Addr} (x : ExtS h h') (n : CodeHd h c P) : CodeHd h' c P := by
  obtain ⟨o, vs, file, tf, flags, tg, inF, text, tt, ho, hc, hd, r⟩ := n
  exact ⟨o, vs, file, tf, flags, tg, inF, text, tt, x c o ho (fun q => by subst q; cases hc) (fun _ _ e => by rw [hd] at e; cases e), hc, hd, r⟩
theorem ExtS.builtinsAt {h h' : Heap} {mg P} (x : ExtS h h') (n : h.BuiltinsAt mg P) : h'.BuiltinsAt mg P := by
  obtain ⟨bm, o, h1, h2, h3, h4, h5, h6, h7, h8⟩ := n
  exact ⟨bm, o, h1, h2, h3, h4, x _ _ h5 (fun q => by subst q; cases h6) (fun _ _ e => by rw [h8] at e; cases e), h6, h7, h8⟩

/-! the three code tables -/
def TbAt (h : Heap) (P : Addr) (q : Str) (pos : Pos) : Prop :=
  ∃ ps, h.get? P = some (tabObj ps) ∧ (ps = #[] ∨ ∃ c', ps = #[rawInt pos.line, rawInt pos.col, .ref c'] ∧ h.CodeRec (.ref c') q)
theorem TbAt.keeps {h h' : Heap} {P q pos} (x : TbAt h P q pos) (k : ∀ b o, h.get? b = some o → h'.get? b = some o) : TbAt h' P q pos := by
  obtain ⟨ps, e, r⟩ := x
  refine ⟨ps, k _ _ e, r.imp id ?_⟩
  rintro ⟨c', e', r'⟩
  exact ⟨c', e', r'.keeps k⟩
theorem TbAt.sameBut {h h' : Heap} {P q pos} {a : Addr} (x : TbAt h P q pos) (hs : Heap.SameBut a h h') (hd : ∀ o, h.get? a = some o → Dull o) : TbAt h' P q pos := by
  obtain ⟨ps, e, r⟩ := x
  have hP : P ≠ a := by rintro rfl; exact (hd _ e).ne_tab _ rfl
  refine ⟨ps, (hs.2 P hP).trans e, r.imp id ?_⟩
  rintro ⟨c', e', c, o, vs, t, e1, e2, e3, e4⟩
  refine ⟨c', e', c, o, vs, t, e1, (hs.2 c ?_).trans e2, e3, e4⟩
  rintro rfl
  exact ((hd _ e2) vs e3).2 _ _ e4

def i2d : Stmt := stIn (bodyOf (stAt 7)) 1
def d2i : Stmt := stIn (bodyOf (stAt 8)) 0
def shn : Stmt := stIn (bodyOf (stAt 18)) 0
def qI2d : Str := "_int2digits.<locals>.inner"
def qD2i : Str := "_digits2int.<locals>.inner"
def qShn : Str := "_law_shown.<locals>.shown"
structure Tb (h : Heap) : Prop where
  i : TbAt h 44 qI2d (posOf i2d)
  d : TbAt h 51 qD2i (posOf d2i)
  s : TbAt h 98 qShn (posOf shn)
theorem Tb.keeps {h h' : Heap} (x : Tb h) (k : ∀ b o, h.get? b = some o → h'.get? b = some o) : Tb h' := ⟨x.i.keeps k, x.d.keeps k, x.s.keeps k⟩
theorem Tb.sameBut {h h' : Heap} {a : Addr} (x : Tb h) (hs : Heap.SameBut a h h') (hd : ∀ o, h.get? a = some o → Dull o) : Tb h' := ⟨x.i.sameBut hs hd, x.d.sameBut hs hd, x.s.sameBut hs hd⟩
theorem Tb.push {h : Heap} (x : Tb h) (o : Obj) : Tb (h.push o) := x.keeps fun _ _ e => Heap.get?_push_of_some o e

/-! what stands at the base: functions, globals, builtins -/
def Fn (h : Heap) (f c : Addr) (st : Stmt) : Prop :=
  ∃ o doc pm ct, h.get? f = some o ∧ o.data = .func (fdOf st doc pm (.ref c) ct) ∧ h.CodeRec (.ref c) (nameOf st)
theorem Fn.ext {T : List Addr} {h h' : Heap} {f c st} (x : Fn h f c st) (e : Ext T h h') : Fn h' f c st := by
  obtain ⟨o, doc, pm, ct, h1, h2, h3⟩ := x
  exact ⟨o, doc, pm, ct, e.dull h1 (dull_func h2), h2, e.codeRec h3⟩
theorem Fn.extS {h h' : Heap} {f c st} (x : Fn h f c st) (e : ExtS h h') : Fn h' f c st := by
  obtain ⟨o, doc, pm, ct, h1, h2, h3⟩ := x
  exact ⟨o, doc, pm, ct, e _ _ h1 ((dull_func h2).ne_tab _) (fun _ _ e => by rw [h2] at e; cases e), h2, e.codeRec h3⟩
def globs : List (Str × Value) := [("replace", .ref 21), ("_split_list", .ref 28), ("_DIV_LIMIT", .int 4000 210), ("_div2n1n", .ref 35), ("_int2digits", .ref 49), ("_digits2int", .ref 56), ("_divmod_pos", .ref 63),
  ("int_divmod", .ref 70), ("ELLIPSIS_MARKER", .str "..." 292), ("_ellipsis_match", .ref 77), ("_law_figures", .ref 84), ("_law_text", .ref 89), ("_law_pairs", .ref 96), ("_law_shown", .ref 103), ("_law_seen", .ref 110)]
def blts : List Str := ["len", "sum", "max", "divmod", "reversed", "range", "list"]
structure Wd (h : Heap) : Prop where
  g : ∃ mg, h.Ns mainGlobals mg ∧ (∀ x v, globs.lookup x = some v → mg x = some v) ∧ (∀ x ∈ blts, mg x = none) ∧ h.BuiltinsAt mg 44 ∧ h.BuiltinsAt mg 51 ∧ h.BuiltinsAt mg 98
  b : ∃ mb, h.Ns builtinsNs mb ∧ ∀ x : Str, x ≠ "__name__" → mb x = bootBuiltins x
  nl : h.NoLimit
  f21 : Fn h 21 20 (stAt 1)
  f28 : Fn h 28 27 (stAt 2)
  f35 : Fn h 35 34 (stAt 5)
  f49 : Fn h 49 48 (stAt 7)
  f56 : Fn h 56 55 (stAt 8)
  f63 : Fn h 63 62 (stAt 9)
  f70 : Fn h 70 69 (stAt 10)
  f77 : Fn h 77 76 (stAt 13)
  f84 : Fn h 84 83 (stAt 15)
  f89 : Fn h 89 88 (stAt 16)
  f96 : Fn h 96 95 (stAt 17)
  f103 : Fn h 103 102 (stAt 18)
  f110 : Fn h 110 109 (stAt 19)
  f115 : Fn h 115 114 (stAt 20)
  c48 : CodeHd h 48 44
  c55 : CodeHd h 55 51
  c102 : CodeHd h 102 98
theorem Wd.ext {T : List Addr} {h h' : Heap} (x : Wd h) (e : Ext T h h') : Wd h' where
  g := let ⟨mg, h1, h2, h3, h4, h5, h6⟩ := x.g; ⟨mg, e.ns h1, h2, h3, e.builtinsAt h4, e.builtinsAt h5, e.builtinsAt h6⟩
  b := let ⟨mb, h1, h2⟩ := x.b; ⟨mb, e.ns h1, h2⟩
  nl := e.noLimit x.nl
  f21 := x.f21.ext e
  f28 := x.f28.ext e
  f35 := x.f35.ext e
  f49 := x.f49.ext e
  f56 := x.f56.ext e
  f63 := x.f63.ext e
  f70 := x.f70.ext e
  f77 := x.f77.ext e
  f84 := x.f84.ext e
  f89 := x.f89.ext e
  f96 := x.f96.ext e
  f103 := x.f103.ext e
  f110 := x.f110.ext e
  f115 := x.f115.ext e
  c48 := e.codeHd x.c48
  c55 := e.codeHd x.c55
  c102 := e.codeHd x.c102

theorem Wd.extS {h h' : Heap} (x : Wd h) (e : ExtS h h') : Wd h' where
  g := let ⟨mg, h1, h2, h3, h4, h5, h6⟩ := x.g; ⟨mg, e.ns h1, h2, h3, e.builtinsAt h4, e.builtinsAt h5, e.builtinsAt h6⟩
  b := let ⟨mb, h1, h2⟩ := x.b; ⟨mb, e.ns h1, h2⟩
  nl := e.noLimit x.nl
  f21 := x.f21.extS e
  f28 := x.f28.extS e
  f35 := x.f35.extS e
  f49 := x.f49.extS e
  f56 := x.f56.extS e
  f63 := x.f63.extS e
  f70 := x.f70.extS e
  f77 := x.f77.extS e
  f84 := x.f84.extS e
  f89 := x.f89.extS e
  f96 := x.f96.extS e
  f103 := x.f103.extS e
  f110 := x.f110.extS e
  f115 := x.f115.extS e
  c48 := e.codeHd x.c48
  c55 := e.codeHd x.c55
  c102 := e.codeHd x.c102

/-! the ledger: what is known of an object -/
inductive OS where
  | vals (vs : List Value)
  | intl (xs : List Int)
  | strl (xs : List Str)
  | tup (vs : List Value)
  | cell (v : Option Value)
  | raw (o : Obj)
  | code (q : Str)
  | wint (xs : List Int)
  | tab
def OS.isCode : OS → Bool
  | .code _ => true
  | .tab => true
  | _ => false
def OS.ok : OS → Obj → Prop
  | .vals vs, o => ∃ n, o = { cls := .type "list", data := .seq vs.toArray n }
  | .intl xs, o => ∃ n vs, o = { cls := .type "list", data := .seq (List.toArray vs) n } ∧ IntsAre vs xs
  | .strl xs, o => ∃ n vs, o = { cls := .type "list", data := .seq (List.toArray vs) n } ∧ StrsAre vs xs
  | .tup vs, o => o.cls = .type "tuple" ∧ ∃ n, o.data = .seq vs.toArray n
  | .cell v, o => o.data = .cell v
  | .raw o', o => o = o' ∧ Dull o'
  | .code q, o => ∃ vs t, o.data = .fields vs ∧ vs[1]? = some (Value.str q t)
  | .wint xs, o => o.cls = .type "list" ∧ ∃ n vs, o.data = .seq (List.toArray vs) n ∧ IntsAre vs xs
  | .tab, o => ∃ (x y : Int) (v : Value), o = tabObj #[rawInt x, rawInt y, v]
theorem OS.ok.dull {sp : OS} {o : Obj} (h : sp.ok o) (hc : sp.isCode = false := by rfl) : Dull o := by
  cases sp with
  | vals vs => obtain ⟨n, rfl⟩ := h; exact dull_seq rfl
  | intl vs => obtain ⟨n, vs, rfl, _⟩ := h; exact dull_seq rfl
  | strl vs => obtain ⟨n, vs, rfl, _⟩ := h; exact dull_seq rfl
  | tup vs => exact dull_seq h.2.choose_spec
  | cell v => exact dull_cell h
  | raw o' => obtain ⟨rfl, d⟩ := h; exact d
  | code q => cases hc
  | wint xs => obtain ⟨_, n, vs, e, _⟩ := h; exact dull_seq e
  | tab => cases hc
theorem OS.ok.ne {sp : OS} {o : Obj} (h : sp.ok o) : o ≠ tabObj #[] := by
  cases hc : sp.isCode with
  | false => exact (h.dull hc).ne_tab _
  | true =>
    cases sp with
    | code q => obtain ⟨vs, t, e, e'⟩ := h; rintro rfl; cases e; simp at e'
    | tab => obtain ⟨x, y, v, rfl⟩ := h; intro e; cases e
    | _ => cases hc
def At (h : Heap) (a : Addr) (sp : OS) : Prop := ∃ o, h.get? a = some o ∧ sp.ok o
theorem At.ext {T : List Addr} {h h' : Heap} {a sp} (x : At h a sp) (e : Ext T h h') : At h' a sp := let ⟨o, h1, h2⟩ := x; ⟨o, e a o h1 fun _ => h2.ne, h2⟩
theorem At.sameBut {h h' : Heap} {a b sp} (x : At h a sp) (hs : Heap.SameBut b h h') (hab : a ≠ b) : At h' a sp := let ⟨o, h1, h2⟩ := x; ⟨o, (hs.2 a hab).trans h1, h2⟩
theorem At.keeps {h h' : Heap} {a sp} (x : At h a sp) (k : ∀ b o, h.get? b = some o → h'.get? b = some o) : At h' a sp := let ⟨o, h1, h2⟩ := x; ⟨o, k _ _ h1, h2⟩
theorem At.lt {h : Heap} {a sp} (x : At h a sp) : a < h.objs.size := let ⟨_, h1, _⟩ := x; Heap.lt_size h1
theorem At.plain {h : Heap} {a vs} (x : At h a (.vals vs)) : h.PlainList a vs.toArray := by obtain ⟨o, h1, n, rfl⟩ := x; exact ⟨n, h1⟩
theorem At.isList {h : Heap} {a vs} (x : At h a (.vals vs)) : h.IsList a vs.toArray := x.plain.isList
theorem At.of_plain {h : Heap} {a vs} (x : h.PlainList a (List.toArray vs)) : At h a (.vals vs) := let ⟨n, e⟩ := x; ⟨_, e, n, rfl⟩
theorem At.intl {h : Heap} {a xs} (x : At h a (.intl xs)) : ∃ vs, At h a (.vals vs) ∧ IntsAre vs xs := let ⟨o, h1, n, vs, h3, h4⟩ := x; ⟨vs, ⟨o, h1, n, h3⟩, h4⟩
theorem At.strl {h : Heap} {a xs} (x : At h a (.strl xs)) : ∃ vs, At h a (.vals vs) ∧ StrsAre vs xs := let ⟨o, h1, n, vs, h3, h4⟩ := x; ⟨vs, ⟨o, h1, n, h3⟩, h4⟩
def Il (h : Heap) (l : Addr) (xs : List Int) : Prop := ∃ vs, h.IsList l (List.toArray vs) ∧ IntsAre vs xs
theorem At.il {h : Heap} {a xs} (x : At h a (.intl xs)) : Il h a xs := let ⟨vs, h1, h2⟩ := x.intl; ⟨vs, h1.isList, h2⟩
theorem At.wil {h : Heap} {a xs} (x : At h a (.wint xs)) : Il h a xs := let ⟨o, h1, h2, n, vs, h3, h4⟩ := x; ⟨vs, ⟨o, h1, h2, n, h3⟩, h4⟩
theorem Il.at {h : Heap} {a xs} (x : Il h a xs) : At h a (.wint xs) := let ⟨vs, ⟨o, h1, h2, n, h3⟩, h4⟩ := x; ⟨o, h1, h2, n, vs, h3, h4⟩
theorem At.to_intl {h : Heap} {a vs xs} (x : At h a (.vals vs)) (i : IntsAre vs xs) : At h a (.intl xs) := let ⟨o, h1, n, h3⟩ := x; ⟨o, h1, n, vs, h3, i⟩
theorem At.to_strl {h : Heap} {a vs xs} (x : At h a (.vals vs)) (i : StrsAre vs xs) : At h a (.strl xs) := let ⟨o, h1, n, h3⟩ := x; ⟨o, h1, n, vs, h3, i⟩
theorem At.isTup {h : Heap} {a vs} (x : At h a (.tup vs)) : IsTup h a vs.toArray := let ⟨o, h1, h2, n, h3⟩ := x; ⟨o, h1, h2, n, h3⟩

/-- a contract's frame -/
structure Kp (T : List Addr) (s s' : Shared) : Prop where
  same : ∃ h tk, s' = { s with heap := h, toks := tk }
  keep : Ext T s.heap s'.heap
  tb : Tb s'.heap
  grow : s.heap.objs.size ≤ s'.heap.objs.size
theorem Kp.trans {T : List Addr} {s s' s'' : Shared} (x : Kp T s s') (y : Kp T s' s'') : Kp T s s'' := by
  refine ⟨?_, x.keep.trans y.keep, y.tb, Nat.le_trans x.grow y.grow⟩
  obtain ⟨h, tk, rfl⟩ := x.same
  obtain ⟨h', tk', rfl⟩ := y.same
  exact ⟨h', tk', rfl⟩
theorem Kp.weaken {T T' : List Addr} {s s' : Shared} (x : Kp T s s') (hT : ∀ b ∈ T, b ∈ T') : Kp T' s s' := ⟨x.same, x.keep.weaken hT, x.tb, x.grow⟩

/-- the frame at hand -/
structure Fm (T : List Addr) (s₀ : Shared) (L : Addr) (m : Str → Option Value) (nw : List (Addr × OS)) (s : Shared) : Prop where
  same : ∃ h tk, s = { s₀ with heap := h, toks := tk }
  ns : s.heap.Ns L m
  keep : Ext T s₀.heap s.heap
  above : s₀.heap.objs.size ≤ L
  new : ∀ p ∈ nw, At s.heap p.1 p.2 ∧ p.1 ≠ L ∧ (p.2.isCode = false → s₀.heap.get? p.1 = none)
  nd : (nw.map (·.1)).Nodup
  tb : Tb s.heap
  wd : Wd s₀.heap

section
variable {T : List Addr} {s₀ s s' : Shared} {L : Addr} {m : Str → Option Value} {nw : List (Addr × OS)}
theorem Fm.world (f : Fm T s₀ L m nw s) : Wd s.heap := f.wd.ext f.keep
theorem Fm.kp (f : Fm T s₀ L m nw s) : Kp T s₀ s := ⟨f.same, f.keep, f.tb, Nat.le_trans f.above (Nat.le_of_lt f.ns.lt)⟩
theorem Fm.at (f : Fm T s₀ L m nw s) {a sp} (h : (a, sp) ∈ nw) : At s.heap a sp := (f.new _ h).1
theorem Fm.base (f : Fm T s₀ L m nw s) {a sp} (h : At s₀.heap a sp) : At s.heap a sp := h.ext f.keep
theorem Fm.tok (f : Fm T s₀ L m nw s) (tk : Tok) : Fm T s₀ L m nw { s with toks := tk } :=
  ⟨by obtain ⟨h, t, rfl⟩ := f.same; exact ⟨h, tk, rfl⟩, f.ns, f.keep, f.above, f.new, f.nd, f.tb, f.wd⟩
/-- all of the heap is kept -/
theorem Fm.kept (f : Fm T s₀ L m nw s) {h' : Heap} (tk : Tok) (k : ∀ b o, s.heap.get? b = some o → h'.get? b = some o) : Fm T s₀ L m nw { s with heap := h', toks := tk } :=
  ⟨by obtain ⟨h, t, rfl⟩ := f.same; exact ⟨h', tk, rfl⟩, f.ns.keeps k, f.keep.trans (.of_keeps k), f.above, fun p hp => ⟨(f.new p hp).1.keeps k, (f.new p hp).2⟩, f.nd, f.tb.keeps k, f.wd⟩
/-- behind a call -/
theorem Fm.call {T' : List Addr} (f : Fm T s₀ L m nw s) (k : Kp T' s s') (hT : ∀ b ∈ T', b ∈ T := by simp) : Fm T s₀ L m nw s' := by
  refine ⟨?_, k.keep.ns f.ns, f.keep.trans (k.keep.weaken hT), f.above, fun p hp => ⟨(f.new p hp).1.ext k.keep, (f.new p hp).2⟩, f.nd, k.tb, f.wd⟩
  obtain ⟨h, t, rfl⟩ := f.same
  obtain ⟨h', t', rfl⟩ := k.same
  exact ⟨h', t', rfl⟩
/-- a new entry -/
theorem Fm.add (f : Fm T s₀ L m nw s) {a sp} (h : At s.heap a sp) (hL : a ≠ L) (hs : s₀.heap.get? a = none) (hn : ∀ p ∈ nw, p.1 ≠ a) : Fm T s₀ L m ((a, sp) :: nw) s :=
  ⟨f.same, f.ns, f.keep, f.above, fun p hp => by
    rcases List.mem_cons.mp hp with rfl | hp
    · exact ⟨h, hL, fun _ => hs⟩
    · exact f.new p hp, by
    rw [List.map_cons, List.nodup_cons]
    exact ⟨fun hm => by obtain ⟨p, hp, e⟩ := List.mem_map.mp hm; exact hn p hp e, f.nd⟩, f.tb, f.wd⟩
/-- a full code table is noted -/
theorem Fm.addTab (f : Fm T s₀ L m nw s) {P : Addr} (h : At s.heap P .tab) (hn : ∀ p ∈ nw, p.2 ≠ .tab) : Fm T s₀ L m ((P, .tab) :: nw) s := by
  obtain ⟨o, ho, x, y, v, rfl⟩ := id h
  refine ⟨f.same, f.ns, f.keep, f.above, fun p hp => ?_, ?_, f.tb, f.wd⟩
  · rcases List.mem_cons.mp hp with rfl | hp
    · refine ⟨h, ?_, fun e => by cases e⟩
      rintro rfl
      obtain ⟨o, es, ep, e1, e2, _⟩ := f.ns
      rw [ho] at e1; cases e1; cases e2
    · exact f.new p hp
  · rw [List.map_cons, List.nodup_cons]
    refine ⟨fun hm => ?_, f.nd⟩
    obtain ⟨⟨q, sp⟩, hq, rfl⟩ := List.mem_map.mp hm
    have hnt := hn _ hq
    obtain ⟨o', e1, e2⟩ := (f.new _ hq).1
    dsimp only at e1 e2 hnt ho
    rw [ho] at e1; cases e1
    cases hc : sp.isCode with
    | false => exact (e2.dull hc).ne_tab _ rfl
    | true =>
      cases sp with
      | code q => obtain ⟨vs, t, e, e'⟩ := e2; cases e; simp [rawInt] at e'
      | tab => exact hnt rfl
      | _ => cases hc
theorem Fm.fits (f : Fm T s₀ L m nw s) {a : Addr} (h : s.heap.objs.size ≤ a) : a ≠ L ∧ s₀.heap.get? a = none ∧ ∀ p ∈ nw, p.1 ≠ a := by
  have h1 : s.heap.objs.size > L := f.ns.lt
  have h2 : s₀.heap.objs.size ≤ (L : Nat) := f.above
  have h3 : s.heap.objs.size ≤ (a : Nat) := h
  refine ⟨fun e => ?_, Heap.get?_none_of_le (show s₀.heap.objs.size ≤ (a : Nat) by omega), fun p hp e => ?_⟩
  · subst e; omega
  · have h4 : s.heap.objs.size > p.1 := (f.new p hp).1.lt
    rw [e] at h4; omega
/-- a contract's fresh result -/
theorem Fm.got {T' : List Addr} (f : Fm T s₀ L m nw s) (k : Kp T' s s') {a sp} (h : At s'.heap a sp) (ha : s.heap.objs.size ≤ a) (hT : ∀ b ∈ T', b ∈ T := by simp) : Fm T s₀ L m ((a, sp) :: nw) s' :=
  let ⟨h1, h2, h3⟩ := f.fits ha
  (f.call k hT).add h h1 h2 h3
theorem Fm.push (f : Fm T s₀ L m nw s) (o : Obj) : Fm T s₀ L m nw { s with heap := s.heap.push o } := f.kept s.toks fun _ _ e => Heap.get?_push_of_some o e
theorem Fm.alloc (f : Fm T s₀ L m nw s) {o : Obj} {sp : OS} (h : sp.ok o) (hf : o.isFreed = false) : Fm T s₀ L m ((s.heap.objs.size, sp) :: nw) { s with heap := s.heap.push o } :=
  let ⟨h1, h2, h3⟩ := f.fits (Nat.le_refl _)
  (f.push o).add ⟨o, Heap.get?_push_size _ hf, h⟩ h1 h2 h3
theorem Fm.locals (f : Fm T s₀ L m nw s) {h' : Heap} {m'} (tk : Tok) (hn : h'.Ns L m') (hs : Heap.SameBut L s.heap h') : Fm T s₀ L m' nw { s with heap := h', toks := tk } := by
  have hd : ∀ o, s.heap.get? L = some o → Dull o := fun o e => by
    obtain ⟨o', es, ep, ho, hd, _⟩ := f.ns
    rw [ho] at e; cases e; exact dull_dict hd
  refine ⟨by obtain ⟨h, t, rfl⟩ := f.same; exact ⟨h', tk, rfl⟩, hn, fun b o e n => ?_, f.above, fun p hp => ⟨(f.new p hp).1.sameBut hs (f.new p hp).2.1, (f.new p hp).2⟩, f.nd, f.tb.sameBut hs hd, f.wd⟩
  refine (hs.2 b (Nat.ne_of_lt (Nat.lt_of_lt_of_le (Heap.lt_size e) f.above))).trans (f.keep b o e n)
/-- an entry is changed -/
theorem Fm.change {pre post : List (Addr × OS)} {a : Addr} {sp sp' : OS} (f : Fm T s₀ L m (pre ++ (a, sp) :: post) s) {h' : Heap} (tk : Tok) (hs : Heap.SameBut a s.heap h') (ha : At h' a sp') (hc : sp.isCode = false := by rfl) :
    Fm T s₀ L m (pre ++ (a, sp') :: post) { s with heap := h', toks := tk } := by
  have hm := f.new (a, sp) (by simp)
  have nd := f.nd
  rw [List.map_append, List.map_cons, List.nodup_append, List.nodup_cons] at nd
  have hd : ∀ o, s.heap.get? a = some o → Dull o := fun o e => by
    obtain ⟨o', h1, h2⟩ := hm.1
    rw [h1] at e; cases e; exact h2.dull hc
  refine ⟨by obtain ⟨h, t, rfl⟩ := f.same; exact ⟨h', tk, rfl⟩, f.ns.sameBut hs (Ne.symm hm.2.1), fun b o e n => ?_, f.above, fun p hp => ?_, by simpa using f.nd, f.tb.sameBut hs hd, f.wd⟩
  · refine (hs.2 b ?_).trans (f.keep b o e n)
    rintro rfl
    rw [hm.2.2 hc] at e
    cases e
  · rcases List.mem_append.mp hp with hq | hq
    · have hx := f.new p (List.mem_append_left _ hq)
      refine ⟨hx.1.sameBut hs fun e => ?_, hx.2⟩
      exact nd.2.2 _ (List.mem_map_of_mem (f := (·.1)) hq) _ (List.mem_cons_self) (by simpa using e)
    · rcases List.mem_cons.mp hq with rfl | hq
      · exact ⟨ha, hm.2.1, fun _ => hm.2.2 hc⟩
      · have hx := f.new p (List.mem_append_right _ (List.mem_cons_of_mem _ hq))
        refine ⟨hx.1.sameBut hs fun e => ?_, hx.2⟩
        exact nd.2.1.1 (e ▸ List.mem_map_of_mem (f := (·.1)) hq)
theorem Fm.drop {pre post : List (Addr × OS)} {p : Addr × OS} (f : Fm T s₀ L m (pre ++ p :: post) s) : Fm T s₀ L m (pre ++ post) s :=
  ⟨f.same, f.ns, f.keep, f.above, fun q hq => f.new q (by rcases List.mem_append.mp hq with h | h <;> simp [h]), by
    have := f.nd
    rw [List.map_append, List.map_cons] at this
    rw [List.map_append]
    exact List.Nodup.sublist (List.Sublist.append (List.Sublist.refl _) (List.sublist_cons_self _ _)) this, f.tb, f.wd⟩
theorem Fm.sub (f : Fm T s₀ L m nw s) {nw' : List (Addr × OS)} (h : nw'.Sublist nw) : Fm T s₀ L m nw' s :=
  ⟨f.same, f.ns, f.keep, f.above, fun q hq => f.new q (h.subset hq), (f.nd).sublist (h.map _), f.tb, f.wd⟩
theorem Fm.perm (f : Fm T s₀ L m nw s) {nw' : List (Addr × OS)} (h : nw.Perm nw') : Fm T s₀ L m nw' s :=
  ⟨f.same, f.ns, f.keep, f.above, fun q hq => f.new q (h.mem_iff.mpr hq), (h.map _).nodup_iff.mp f.nd, f.tb, f.wd⟩
end

def upd (m : Str → Option Value) (x : Str) (v : Value) : Str → Option Value := fun y => if y = x then some v else m y
theorem upd_hit {m : Str → Option Value} {x : Str} {v : Value} : upd m x v x = some v := if_pos rfl
theorem upd_miss {m : Str → Option Value} {x y : Str} {v : Value} {r : Option Value} (h : y ≠ x) (e : m y = r) : upd m x v y = r := (if_neg h).trans e
end Mine

/-! Mr -/
namespace Mine

/-! all of a heap as a ledger of the library's: so that the library's rules over Fr and News serve -/
def noHeap (h : Heap) : Heap := ⟨#[], h.life⟩
theorem noHeap_get (h : Heap) (b : Addr) : (noHeap h).get? b = none := rfl
def allNews (L : Addr) (h : Heap) : List (Addr × Obj) := (List.range h.objs.size).filterMap fun b => if b = L then none else (h.get? b).map fun o => (b, o)
theorem mem_allNews {L b : Addr} {h : Heap} {o : Obj} : (b, o) ∈ allNews L h ↔ b ≠ L ∧ h.get? b = some o := by
  unfold allNews
  rw [List.mem_filterMap]
  constructor
  · rintro ⟨a, _, e⟩
    split at e
    · cases e
    · rename_i hne
      obtain ⟨x, hx, e'⟩ := Option.map_eq_some_iff.mp e
      cases e'
      exact ⟨hne, hx⟩
  · rintro ⟨hne, e⟩
    exact ⟨b, List.mem_range.mpr (Heap.lt_size e), by rw [if_neg hne, e]; rfl⟩
theorem fr_all {h : Heap} {L : Addr} {m} (n : h.Ns L m) : Fr (noHeap h) L h m := ⟨n, fun b o e => (by rw [noHeap_get] at e; cases e), Nat.zero_le _⟩
theorem news_all (h : Heap) (L : Addr) : News (noHeap h) L h (allNews L h) := fun p hp => by
  obtain ⟨b, o⟩ := p
  obtain ⟨h1, h2⟩ := mem_allNews.mp hp
  exact ⟨h2, h1, rfl⟩

section
variable {T : List Addr} {s₀ s s' : Shared} {L : Addr} {m m' : Str → Option Value} {nw : List (Addr × OS)} {e h' : Heap}
/-- only the frame's own namespace turned -/
theorem Fm.renew (f : Fm T s₀ L m nw s) (tk : Tok) (n : h'.Ns L m') (k : ∀ b o, b ≠ L → s.heap.get? b = some o → h'.get? b = some o) : Fm T s₀ L m' nw { s with heap := h', toks := tk } := by
  have hd : ∀ o, s.heap.get? L = some o → Dull o := fun o e => by
    obtain ⟨o', es, ep, ho, hd, _⟩ := f.ns
    rw [ho] at e; cases e; exact dull_dict hd
  have tbk : ∀ {P q pos}, TbAt s.heap P q pos → TbAt h' P q pos := by
    rintro P q pos ⟨ps, e, r⟩
    have hP : P ≠ L := by rintro rfl; exact (hd _ e).ne_tab _ rfl
    refine ⟨ps, k _ _ hP e, r.imp id ?_⟩
    rintro ⟨c', e', c, o, vs, t, e1, e2, e3, e4⟩
    refine ⟨c', e', c, o, vs, t, e1, k _ _ ?_ e2, e3, e4⟩
    rintro rfl
    exact ((hd _ e2) vs e3).2 _ _ e4
  refine ⟨by obtain ⟨h, t, rfl⟩ := f.same; exact ⟨h', tk, rfl⟩, n, fun b o e x => ?_, f.above, fun p hp => ⟨?_, (f.new p hp).2⟩, f.nd, ⟨tbk f.tb.i, tbk f.tb.d, tbk f.tb.s⟩, f.wd⟩
  · exact k b o (Nat.ne_of_lt (Nat.lt_of_lt_of_le (Heap.lt_size e) f.above)) (f.keep b o e x)
  · obtain ⟨o, h1, h2⟩ := (f.new p hp).1
    exact ⟨o, k _ _ (f.new p hp).2.1 h1, h2⟩
theorem Fm.byNews (f : Fm T s₀ L m nw s) (tk : Tok) (F : Fr e L h' m') (N : News e L h' (allNews L s.heap)) : Fm T s₀ L m' nw { s with heap := h', toks := tk } :=
  f.renew tk F.ns fun b o hb x => (N (b, o) (mem_allNews.mpr ⟨hb, x⟩)).1
theorem Fm.byNewsA (f : Fm T s₀ L m nw s) (tk : Tok) {a : Addr} {o : Obj} {sp : OS} (F : Fr e L h' m') (N : News e L h' ((a, o) :: allNews L s.heap)) (ha : s.heap.objs.size ≤ a) (hsp : sp.ok o) :
    Fm T s₀ L m' ((a, sp) :: nw) { s with heap := h', toks := tk } := by
  obtain ⟨h1, h2, h3⟩ := f.fits ha
  exact (f.byNews tk F fun p hp => N p (List.mem_cons_of_mem _ hp)).add ⟨o, (N (a, o) List.mem_cons_self).1, hsp⟩ h1 h2 h3
end

section
variable {M : Model} {A : Around} {E : Value → Shared → Prop} {T : List Addr} {s₀ s : Shared} {L : Addr} {m : Str → Option Value} {nw : List (Addr × OS)} {env : Env} {x : Str} {pos : Pos} {v : Value}

/-! names -/
theorem nmL {Q : Value → Shared → Prop} (f : Fm T s₀ L m nw s) (hv : m x = some v) (h : Q v s) (hL : env.locals = L := by rfl) (hk : env.scope.kind = .function := by rfl)
    (hx : env.kindOf x = some .local := by rfl) (hd : (x == ("__debug__" : Str)) = false := by decide) : wpAny M A (eval (.Name x pos) env) Q E s :=
  wpAny_Name (wpAny_loadName_local hk hx (hL ▸ f.ns) hv h) hd
theorem nmC {Q : Value → Shared → Prop} {c : Addr} (f : Fm T s₀ L m nw s) (hc : env.cells.lookup x = some c) (hm : (c, OS.cell (some v)) ∈ nw) (h : Q v s) (hk : env.scope.kind = .function := by rfl)
    (hx : env.kindOf x = some .cell := by rfl) (hd : (x == ("__debug__" : Str)) = false := by decide) : wpAny M A (eval (.Name x pos) env) Q E s :=
  wpAny_Name (wpAny_loadName_cell hk hx hc (f.at hm) h) hd
theorem nmF {Q : Value → Shared → Prop} {c : Addr} (hc : env.cells.lookup x = some c) (hm : At s.heap c (.cell (some v))) (h : Q v s) (hk : env.scope.kind = .function := by rfl)
    (hx : env.kindOf x = some .free := by rfl) (hd : (x == ("__debug__" : Str)) = false := by decide) (hn : (x == ("__classdict__" : Str)) = false := by decide) : wpAny M A (eval (.Name x pos) env) Q E s :=
  wpAny_Name (wpAny_loadName_free hk hx hc hm h hn) hd
theorem nmG {Q : Value → Shared → Prop} (W : Wd s.heap) (hv : globs.lookup x = some v) (h : Q v s) (hg : env.globals = mainGlobals := by rfl) (hk : env.scope.kind = .function := by rfl)
    (hx : env.kindOf x = some .globalImplicit := by rfl) (hd : (x == ("__debug__" : Str)) = false := by decide) : wpAny M A (eval (.Name x pos) env) Q E s := by
  obtain ⟨mg, h1, h2, _⟩ := W.g
  exact Name_function_global hk hx (loadGlobal_global (hg ▸ h1) (h2 x v hv) h) hd
theorem nmB {Q : Value → Shared → Prop} (W : Wd s.heap) (hm : x ∈ blts) (hv : bootBuiltins x = some v) (h : Q v s) (hn : x ≠ "__name__" := by decide) (hg : env.globals = mainGlobals := by rfl) (hb : env.builtins = builtinsNs := by rfl)
    (hk : env.scope.kind = .function := by rfl) (hx : env.kindOf x = some .globalImplicit := by rfl) (hd : (x == ("__debug__" : Str)) = false := by decide) : wpAny M A (eval (.Name x pos) env) Q E s := by
  obtain ⟨mg, h1, _, h3, _⟩ := W.g
  obtain ⟨mb, h5, h6⟩ := W.b
  exact Name_function_global hk hx (loadGlobal_builtin (hg ▸ h1) (h3 x hm) (hb ▸ h5) ((h6 x hn).trans hv) h) hd

/-! stores -/
theorem stL {Q : Unit → Shared → Prop} (f : Fm T s₀ L m nw s) (h : ∀ s', Fm T s₀ L (upd m x v) nw s' → Q () s') (hL : env.locals = L := by rfl) (hk : env.scope.kind = .function := by rfl)
    (hx : env.kindOf x = some .local := by rfl) : wpAny M A (storeName env x v) Q E s :=
  wpAny_storeName_local hx (hL ▸ f.ns) (fun h' hn hs => h _ (f.locals _ (hL ▸ hn) (hL ▸ hs))) (by rw [hk]; rfl)
theorem stC {Q : Unit → Shared → Prop} {pre post : List (Addr × OS)} {c : Addr} {v₀ : Option Value} (f : Fm T s₀ L m (pre ++ (c, OS.cell v₀) :: post) s) (hc : env.cells.lookup x = some c)
    (h : ∀ s', Fm T s₀ L m (pre ++ (c, OS.cell (some v)) :: post) s' → Q () s') (hk : env.scope.kind = .function := by rfl) (hx : env.kindOf x = some .cell := by rfl) : wpAny M A (storeName env x v) Q E s :=
  wpAny_storeName_cell hk hx hc (f.at (sp := .cell v₀) (by simp)) fun h' hc' hs => h _ (f.change s.toks hs hc')

/-! constants -/
theorem cI {Q : Value → Shared → Prop} {i : Int} {k : Nat} (f : Fm T s₀ L m nw s) (h : ∀ t s', Fm T s₀ L m nw s' → Q (.int i t) s') : wpAny M A (eval (.Constant (.int i) k pos) env) Q E s :=
  wpAny_Constant_int (h _ _ (f.tok _))
theorem cS {Q : Value → Shared → Prop} {y : Str} {k : Nat} (f : Fm T s₀ L m nw s) (h : ∀ t s', Fm T s₀ L m nw s' → Q (.str y t) s') : wpAny M A (eval (.Constant (.str y) k pos) env) Q E s :=
  Calls.Constant_str (h _ _ (f.tok _))
end

section
variable {prog : Program} {w : World} {A : Around} {E : Value → Shared → Prop} {T : List Addr} {s₀ s : Shared} {L : Addr} {m : Str → Option Value} {nw : List (Addr × OS)} {a b : Int} {t u : Tok} {Q : Value → Shared → Prop}

/-! ints -/
theorem oAdd (f : Fm T s₀ L m nw s) (h : ∀ t s', Fm T s₀ L m nw s' → Q (.int (a + b) t) s') : wpAny (model prog w) A (binaryOp .Add (.int a t) (.int b u)) Q E s := add_int (h _ _ (f.tok _))
theorem oSub (f : Fm T s₀ L m nw s) (h : ∀ t s', Fm T s₀ L m nw s' → Q (.int (a - b) t) s') : wpAny (model prog w) A (binaryOp .Sub (.int a t) (.int b u)) Q E s := sub_int (h _ _ (f.tok _))
theorem oMul (f : Fm T s₀ L m nw s) (hm : IntMulOk a b) (h : ∀ t s', Fm T s₀ L m nw s' → Q (.int (a * b) t) s') : wpAny (model prog w) A (binaryOp .Mult (.int a t) (.int b u)) Q E s := mul_int (h _ _ (f.tok _)) hm
theorem oDiv (f : Fm T s₀ L m nw s) (hb : b ≠ 0) (hs : b.natAbs < 1073741824) (h : ∀ t s', Fm T s₀ L m nw s' → Q (.int (a.fdiv b) t) s') : wpAny (model prog w) A (binaryOp .FloorDiv (.int a t) (.int b u)) Q E s :=
  floordiv_int hb (h _ _ (f.tok _)) (.inl (PyProof.noPylong_small hs))
theorem oMod (f : Fm T s₀ L m nw s) (hb : b ≠ 0) (h : ∀ t s', Fm T s₀ L m nw s' → Q (.int (a.fmod b) t) s') : wpAny (model prog w) A (binaryOp .Mod (.int a t) (.int b u)) Q E s := mod_int' hb (h _ _ (f.tok _))
theorem oPow (f : Fm T s₀ L m nw s) (hb : 0 ≤ b) (hs : (Builtin.Int.intBits a : Int) * b ≤ 2 ^ 27) (h : ∀ t s', Fm T s₀ L m nw s' → Q (.int (a ^ b.toNat) t) s') : wpAny (model prog w) A (binaryOp .Pow (.int a t) (.int b u)) Q E s :=
  pow_int hb hs (h _ _ (f.tok _))
theorem oShl (f : Fm T s₀ L m nw s) (h0 : 0 ≤ b) (h1 : b ≤ 1000000) (h2 : a.natAbs < 2 ^ 64) (h : ∀ t s', Fm T s₀ L m nw s' → Q (.int (a * 2 ^ b.toNat) t) s') : wpAny (model prog w) A (binaryOp .LShift (.int a t) (.int b u)) Q E s :=
  lshift_int_small h0 h1 h2 (h _ _ (f.tok _))
theorem oXor (f : Fm T s₀ L m nw s) (h : ∀ t s', Fm T s₀ L m nw s' → Q (.int (Builtin.bitXor a b) t) s') : wpAny (model prog w) A (binaryOp .BitXor (.int a t) (.int b u)) Q E s := xor_int (h _ _ (f.tok _))
end
end Mine

/-! Mr2 -/
namespace Mine

/-! room -/
structure Ok (A : Around) (k : Nat) : Prop where
  h : A.handled = none
  d : A.depth + k ≤ 900
  u : A.units + 4 * k ≤ 9000
theorem Ok.deeper {A : Around} {k : Nat} (x : Ok A (k + 1)) (env : Env) : Ok (A.deeper env) k := ⟨x.h, by have := x.d; show A.depth + 1 + k ≤ 900; omega, by have := x.u; show A.units + 3 + 4 * k ≤ 9000; omega⟩
theorem Ok.room {A : Around} {k : Nat} (x : Ok A k) : A.depth < recursionLimit := by have := x.d; show A.depth < 1000; omega
theorem Ok.le {A : Around} {k k' : Nat} (x : Ok A k) (h : k' ≤ k) : Ok A k' := ⟨x.h, by have := x.d; omega, by have := x.u; omega⟩
theorem Ok.units {A : Around} {k : Nat} (x : Ok A k) : A.units < cLine := by have := x.u; show A.units < 9900; omega

theorem Fn.at {h : Heap} {f c : Addr} {st : Stmt} (x : Fn h f c st) : FnAt f h := by
  obtain ⟨⟨oc, od, dt, sl⟩, doc, pm, ct, h1, h2, _⟩ := x
  cases h2
  exact ⟨oc, od, _, sl, h1⟩

section
variable {M : Model} {A : Around} {E : Value → Shared → Prop} {T : List Addr} {s₀ s : Shared} {L : Addr} {m : Str → Option Value} {nw : List (Addr × OS)} {env : Env} {x : Str} {pos np : Pos} {v : Value} {Q : Value → Shared → Prop} {e : Expr} {rest : List Expr}
theorem spl {Q : List Value → Shared → Prop} (h : wpAny M A (eval e env) (fun v s₁ => wpAny M A (spliced (backTo pos (starEach rest env))) (fun vs s₂ => Q (v :: vs) s₂) E s₁) E s)
    (he : starEach (e :: rest) env = (false, eval e env) :: starEach rest env := by rfl) : wpAny M A (spliced (backTo pos (starEach (e :: rest) env))) Q E s := by
  rw [he]; exact spliced_cons h
theorem spn {Q : List Value → Shared → Prop} (h : Q [] s) : wpAny M A (spliced (backTo pos (starEach [] env))) Q E s := spliced_nil h

/-- a call of one of the text's own functions -/
theorem cG {q : Addr} (f : Fm T s₀ L m nw s) (hv : globs.lookup x = some (.ref q)) (F : FnAt q s.heap)
    (h : wpAny M A (spliced (backTo pos (starEach (e :: rest) env))) (fun vs s₁ => FnAt q s₁.heap ∧ wpAny M A (call (.ref q) vs) Q E s₁) E s)
    (hg : env.globals = mainGlobals := by rfl) (hk : env.scope.kind = .function := by rfl) (hx : env.kindOf x = some .globalImplicit := by rfl) (hd : (x == ("__debug__" : Str)) = false := by decide)
    (he : starEach (e :: rest) env = (false, eval e env) :: starEach rest env := by rfl) (hplain : (backTo pos (starEach rest env)).any (·.1) = false := by rfl) :
    wpAny M A (eval (.Call (.Name x np) (e :: rest) [] pos) env) Q E s :=
  wpAny_Call_ofName (nmG f.world hv (callWith_F (first := []) F h he hplain) hg hk hx hd)
/-- a call of a builtin function -/
theorem cB {id : String} (f : Fm T s₀ L m nw s) (hm : x ∈ blts) (hv : bootBuiltins x = some (.builtin id))
    (h : wpAny M A (spliced (backTo pos (starEach (e :: rest) env))) (fun vs s₁ => wpAny M A (call (.builtin id) vs) Q E s₁) E s)
    (hn : x ≠ "__name__" := by decide) (hg : env.globals = mainGlobals := by rfl) (hb : env.builtins = builtinsNs := by rfl) (hk : env.scope.kind = .function := by rfl) (hx : env.kindOf x = some .globalImplicit := by rfl) (hd : (x == ("__debug__" : Str)) = false := by decide)
    (he : starEach (e :: rest) env = (false, eval e env) :: starEach rest env := by rfl) (hplain : (backTo pos (starEach rest env)).any (·.1) = false := by rfl) :
    wpAny M A (eval (.Call (.Name x np) (e :: rest) [] pos) env) Q E s := by
  refine wpAny_Call_ofName (nmB f.world hm hv ?_ hn hg hb hk hx hd)
  rw [he] at h ⊢
  exact Calls.callWith_builtin (first := []) (show (false || (backTo pos (starEach rest env)).any (·.1)) = false by rw [hplain]; rfl) (evalArgs_plain h)
/-- a call of a type -/
theorem cT {id : String} (f : Fm T s₀ L m nw s) (hm : x ∈ blts) (hv : bootBuiltins x = some (.type id))
    (h : wpAny M A (spliced (backTo pos (starEach (e :: rest) env))) (fun vs s₁ => wpAny M A (call (.type id) vs) Q E s₁) E s)
    (hn : x ≠ "__name__" := by decide) (hg : env.globals = mainGlobals := by rfl) (hb : env.builtins = builtinsNs := by rfl) (hk : env.scope.kind = .function := by rfl) (hx : env.kindOf x = some .globalImplicit := by rfl) (hd : (x == ("__debug__" : Str)) = false := by decide)
    (he : starEach (e :: rest) env = (false, eval e env) :: starEach rest env := by rfl) (hplain : (backTo pos (starEach rest env)).any (·.1) = false := by rfl) :
    wpAny M A (eval (.Call (.Name x np) (e :: rest) [] pos) env) Q E s := by
  refine wpAny_Call_ofName (nmB f.world hm hv ?_ hn hg hb hk hx hd)
  rw [he] at h ⊢
  exact PySem.callWith_type (first := []) (show (false || (backTo pos (starEach rest env)).any (·.1)) = false by rw [hplain]; rfl) (evalArgs_plain h)
end

theorem bt_len : bootBuiltins "len" = some (.builtin "len") := by decide +kernel
theorem bt_sum : bootBuiltins "sum" = some (.builtin "sum") := by decide +kernel
theorem bt_max : bootBuiltins "max" = some (.builtin "max") := by decide +kernel
theorem bt_divmod : bootBuiltins "divmod" = some (.builtin "divmod") := by decide +kernel
theorem bt_range : bootBuiltins "range" = some (.type "range") := by decide +kernel
theorem bt_reversed : bootBuiltins "reversed" = some (.type "reversed") := by decide +kernel
theorem bt_list : bootBuiltins "list" = some (.type "list") := by decide +kernel

/-! entering a function of the text -/
def fenv (st : Stmt) (f c L : Addr) : Env := newEnv (scopeOf st) L mainGlobals [] (nameOf st ++ ".<locals>.") (some f) (.ref c) none builtinsNs
section
variable {prog : Program} {w : World} {A : Around} {E : Value → Shared → Prop} {T : List Addr} {s : Shared} {Q : Value → Shared → Prop} {st : Stmt} {f c : Addr} {vals : List Value}
theorem enter (ns : List Str) (W : Wd s.heap) (tb : Tb s.heap) (F : Fn s.heap f c st) (hroom : A.depth < recursionLimit) (hb : ∀ doc pm ct, bindArgs (fdOf st doc pm (.ref c) ct) ⟨vals, []⟩ = pure (ns.zip vals))
    (hcell : ((scopeOf st).names.all fun x => x.2 != .cell) = true) (hloc : ns.all (fun x => (scopeOf st).names.lookup x == some .local) = true)
    (hflags : ((scopeOf st).isCoroutine || (scopeOf st).isGenerator || (scopeOf st).kind != .function) = false)
    (h : ∀ (E' : Value → Shared → Prop) (L : Addr) (s₁ : Shared), Fm T s L (fun x => (ns.zip vals).reverse.lookup x) [] s₁ →
      wpAny (model prog w) (A.deeper (fenv st f c L)) (execs (bodyOf st) (fenv st f c L)) (fun fl s' => Q (match fl with | .ret v => v | _ => .none) s') E' s₁) :
    wpAny (model prog w) A (call (.ref f) vals) Q E s := by
  obtain ⟨o, doc, pm, ct, h1, h2, h3⟩ := F
  simp only [Bool.or_eq_false_iff, bne_eq_false_iff_eq] at hflags
  refine wpAny_call (codeAny_call_def hroom h1 h2 W.nl h3 rfl (BindsTo.of_eq (hb doc pm ct)) (fun x hx => ?_) (fun x hx => ?_) (fun h₀ hns hk => ?_) hflags.1.1 hflags.1.2 hflags.2)
  · have := List.all_eq_true.mp hcell x hx
    simpa using this
  · have := List.all_eq_true.mp hloc x.1 (List.of_mem_zip hx).1
    show (scopeOf st).names.lookup x.1 = some .local
    simpa using this
  · exact h _ s.heap.objs.size _ ⟨⟨_, _, rfl⟩, hns, .of_keeps hk, Nat.le_refl _, fun p hp => (by cases hp), List.nodup_nil, tb.keeps hk, W⟩
end

/-! loops -/
section
variable {T : List Addr} {s₀ s s' : Shared} {L : Addr} {m : Str → Option Value} {nw : List (Addr × OS)}
/-- all is kept but one dull object, which the ledger then forgets -/
theorem Fm.but {I : Addr} {sp : OS} (f : Fm T s₀ L m ((I, sp) :: nw) s) {h' : Heap} (tk : Tok) (k : ∀ b o, b ≠ I → s.heap.get? b = some o → h'.get? b = some o) (hc : sp.isCode = false := by rfl) : Fm T s₀ L m nw { s with heap := h', toks := tk } := by
  have hm := f.new (I, sp) List.mem_cons_self
  have hd : ∀ o, s.heap.get? I = some o → Dull o := fun o e => by
    obtain ⟨o', h1, h2⟩ := hm.1
    rw [h1] at e; cases e; exact h2.dull hc
  have tbk : ∀ {P q pos}, TbAt s.heap P q pos → TbAt h' P q pos := by
    rintro P q pos ⟨ps, e, r⟩
    have hP : P ≠ I := by rintro rfl; exact (hd _ e).ne_tab _ rfl
    refine ⟨ps, k _ _ hP e, r.imp id ?_⟩
    rintro ⟨c', e', c, o, vs, t, e1, e2, e3, e4⟩
    refine ⟨c', e', c, o, vs, t, e1, k _ _ ?_ e2, e3, e4⟩
    rintro rfl
    exact ((hd _ e2) vs e3).2 _ _ e4
  have nd := f.nd
  rw [List.map_cons, List.nodup_cons] at nd
  obtain ⟨oL, es, ep, hL, hLr⟩ := f.ns
  refine ⟨by obtain ⟨h, t, rfl⟩ := f.same; exact ⟨h', tk, rfl⟩, ⟨oL, es, ep, k _ _ (Ne.symm hm.2.1) hL, hLr⟩, fun b o e x => ?_, f.above, fun p hp => ?_, nd.2, ⟨tbk f.tb.i, tbk f.tb.d, tbk f.tb.s⟩, f.wd⟩
  · refine k b o ?_ (f.keep b o e x)
    rintro rfl
    rw [hm.2.2 hc] at e
    cases e
  · have hx := f.new p (List.mem_cons_of_mem _ hp)
    obtain ⟨o, h1, h2⟩ := hx.1
    exact ⟨⟨o, k _ _ (fun e => nd.1 (e ▸ List.mem_map_of_mem (f := (·.1)) hp)) h1, h2⟩, hx.2⟩
theorem Fm.lt (f : Fm T s₀ L m nw s) {p : Addr × OS} (h : p ∈ nw) : p.1 < s.heap.objs.size := (f.new p h).1.lt
end

section
variable {prog : Program} {w : World} {A : Around} {E : Value → Shared → Prop} {T : List Addr} {s₀ s : Shared} {L : Addr} {m : Str → Option Value} {nw : List (Addr × OS)} {env : Env} {R : Result → Shared → Prop}

/-- a for loop over what `Walks` walks: J holds of the frame between the turns -/
theorem forW {x : Str} {px : Pos} {body : List Stmt} {I : Addr} {fp : List Addr} {n : Nat} {P : Nat → Value → Prop} {St : Nat → Heap → Prop} (W : Walks prog w A I fp [I] n P St) (hSt : St 0 s.heap)
    (hD : ∀ i h, St i h → ∃ o, h.get? I = some o ∧ Dull o) (J : Nat → (Str → Option Value) → List (Addr × OS) → Prop)
    {oI : Obj} (f : Fm T s₀ L m ((I, .raw oI) :: nw) s) (h0 : J 0 m nw)
    (hfp : ∀ b ∈ fp, b ≠ I → ∃ o, Dull o ∧ s.heap.get? b = some o ∧ (s₀.heap.get? b = some o ∨ ∀ i m₁ nw₁, J i m₁ nw₁ → (b, OS.raw o) ∈ nw₁))
    (step : ∀ (E' : Value → Shared → Prop) i v m₁ nw₁ o s₁, i < n → P i v → J i m₁ nw₁ → Fm T s₀ L (upd m₁ x v) ((I, .raw o) :: nw₁) s₁ →
      wpAny (model prog w) A (execs body env) (fun fl s₂ => match fl with
        | .next | .cont => ∃ m₂ nw₂, J (i + 1) m₂ nw₂ ∧ Fm T s₀ L m₂ ((I, .raw o) :: nw₂) s₂
        | .brk => R (.ok .next) s₂
        | .ret v => R (.ok (.ret v)) s₂) E' s₁)
    (hR : ∀ s' m' nw', J n m' nw' → Fm T s₀ L m' nw' s' → R (.ok .next) s')
    (hL : env.locals = L := by rfl) (hk : env.scope.kind = .function := by rfl) (hx : env.kindOf x = some .local := by rfl) :
    codeAny (model prog w) A (.forLoop (.Name x px) (.ref I) body [] env) R s := by
  subst hL
  refine codeAny_forLoop (fun k s' => ∃ i m' nw' o, k = n - i ∧ i ≤ n ∧ J i m' nw' ∧ St i s'.heap ∧ Fm T s₀ env.locals m' ((I, .raw o) :: nw') s' ∧
      (∀ b ∈ fp, b ≠ I → ∃ o, Dull o ∧ s'.heap.get? b = some o ∧ (s₀.heap.get? b = some o ∨ ∀ i m₁ nw₁, J i m₁ nw₁ → (b, OS.raw o) ∈ nw₁))) ?_ n ⟨0, m, nw, oI, rfl, Nat.zero_le _, h0, hSt, f, hfp⟩
  rintro k s' ⟨i, m', nw', o, rfl, hi, hJ, hst, f', hfp'⟩
  by_cases hlt : i < n
  · refine W.item i s' _ _ hlt hst fun v h₁ tk₁ hPv hst₁ hk₁ => ?_
    have g₁ := f'.but tk₁ fun b o hb e => hk₁ b o (by simpa using hb) e
    obtain ⟨o₁, ho₁, hd₁⟩ := hD _ _ hst₁
    have hmI := f'.new (I, .raw o) List.mem_cons_self
    have ndI := f'.nd
    rw [List.map_cons, List.nodup_cons] at ndI
    have g₂ : Fm T s₀ env.locals m' ((I, .raw o₁) :: nw') { s' with heap := h₁, toks := tk₁ } :=
      g₁.add ⟨o₁, ho₁, rfl, hd₁⟩ hmI.2.1 (hmI.2.2 rfl) fun p hp e => ndI.1 (e ▸ List.mem_map_of_mem (f := (·.1)) hp)
    refine wpAny_assign_Name (stL g₂ (fun s₂ g₃ => ?_) rfl hk hx)
    refine wpAny_mono (step _ i v m' nw' o₁ s₂ hlt hPv hJ g₃) (fun fl s₃ h₃ => ?_) fun _ _ e => e
    have next : (∃ m₂ nw₂, J (i + 1) m₂ nw₂ ∧ Fm T s₀ env.locals m₂ ((I, .raw o₁) :: nw₂) s₃) → ∃ k, k < n - i ∧ ∃ i' m' nw' o, k = n - i' ∧ i' ≤ n ∧ J i' m' nw' ∧ St i' s₃.heap ∧ Fm T s₀ env.locals m' ((I, .raw o) :: nw') s₃ ∧
        (∀ b ∈ fp, b ≠ I → ∃ o, Dull o ∧ s₃.heap.get? b = some o ∧ (s₀.heap.get? b = some o ∨ ∀ i m₁ nw₁, J i m₁ nw₁ → (b, OS.raw o) ∈ nw₁)) := by
      rintro ⟨m₂, nw₂, hJ₂, g₄⟩
      have at3 : ∀ b o, (s₀.heap.get? b = some o ∧ Dull o) ∨ (b, OS.raw o) ∈ ((I, OS.raw o₁) :: nw₂) → s₃.heap.get? b = some o := by
        rintro b o (⟨e, d⟩ | e)
        · exact g₄.keep.dull e d
        · obtain ⟨o', e1, rfl, _⟩ := g₄.at e; exact e1
      have other : ∀ b ∈ fp, b ≠ I → ∃ o, Dull o ∧ h₁.get? b = some o ∧ s₃.heap.get? b = some o ∧ (s₀.heap.get? b = some o ∨ ∀ i m₁ nw₁, J i m₁ nw₁ → (b, OS.raw o) ∈ nw₁) := by
        intro b hb hne
        obtain ⟨ob, d, e, r⟩ := hfp' b hb hne
        exact ⟨ob, d, hk₁ b ob (by simpa using hne) e, at3 b ob (r.imp (fun e => ⟨e, d⟩) fun hh => List.mem_cons_of_mem _ (hh _ _ _ hJ₂)), r⟩
      refine ⟨n - (i + 1), by omega, i + 1, m₂, nw₂, o₁, rfl, hlt, hJ₂, W.frame _ _ _ hst₁ fun b hb ob e => ?_, g₄, fun b hb hne => ?_⟩
      · by_cases hbI : b = I
        · subst hbI; rw [ho₁] at e; cases e; exact at3 _ _ (.inr List.mem_cons_self)
        · obtain ⟨o', _, e1, e2, _⟩ := other b hb hbI
          rw [e1] at e; cases e; exact e2
      · obtain ⟨o', d, _, e2, r⟩ := other b hb hne
        exact ⟨o', d, e2, r⟩
    cases fl with
    | next => exact next h₃
    | cont => exact next h₃
    | brk => exact h₃
    | ret v => exact h₃
  · have hin : i = n := by omega
    subst hin
    refine W.done s' _ _ hst fun h₁ tk₁ hk₁ => wpAny_execs_nil ?_
    exact hR _ m' nw' hJ (f'.but tk₁ fun b o hb e => hk₁ b o (by simpa using hb) e)
end
end Mine

/-! Mr3 -/
namespace Mine

theorem ints_snoc {vs : List Value} {xs : List Int} (h : IntsAre vs xs) (a : Int) (t : Tok) : IntsAre (vs ++ [.int a t]) (xs ++ [a]) := by
  induction h with
  | nil => exact .cons a t .nil
  | cons n t' _ ih => exact .cons n t' ih
theorem ints_append {vs ws : List Value} {xs ys : List Int} (h : IntsAre vs xs) (h' : IntsAre ws ys) : IntsAre (vs ++ ws) (xs ++ ys) := by
  induction h with
  | nil => exact h'
  | cons n t' _ ih => exact .cons n t' ih
theorem ints_length {vs : List Value} {xs : List Int} (h : IntsAre vs xs) : vs.length = xs.length := by
  induction h with
  | nil => rfl
  | cons n t' _ ih => simp [ih]
theorem ints_get {vs : List Value} {xs : List Int} (h : IntsAre vs xs) : ∀ {i : Nat} {x : Int}, xs[i]? = some x → ∃ t, vs[i]? = some (.int x t) := by
  induction h with
  | nil => intro i x e; simp at e
  | cons n t _ ih =>
    intro i x e
    cases i with
    | zero => simp at e; subst e; exact ⟨t, rfl⟩
    | succ i => simpa using ih (by simpa using e)
theorem ints_get' {vs : List Value} {xs : List Int} (h : IntsAre vs xs) : ∀ {i : Nat} {v : Value}, vs[i]? = some v → ∃ x t, v = .int x t ∧ xs[i]? = some x := by
  induction h with
  | nil => intro i x e; simp at e
  | cons n t _ ih =>
    intro i x e
    cases i with
    | zero => simp at e; subst e; exact ⟨n, t, rfl, rfl⟩
    | succ i => simpa using ih (by simpa using e)
theorem strs_snoc {vs : List Value} {xs : List Str} (h : StrsAre vs xs) (a : Str) (t : Tok) : StrsAre (vs ++ [.str a t]) (xs ++ [a]) := by
  induction h with
  | nil => exact .cons a t .nil
  | cons n t' _ ih => exact .cons n t' ih
theorem strs_append {vs ws : List Value} {xs ys : List Str} (h : StrsAre vs xs) (h' : StrsAre ws ys) : StrsAre (vs ++ ws) (xs ++ ys) := by
  induction h with
  | nil => exact h'
  | cons n t' _ ih => exact .cons n t' ih
theorem strs_length {vs : List Value} {xs : List Str} (h : StrsAre vs xs) : vs.length = xs.length := by
  induction h with
  | nil => rfl
  | cons n t' _ ih => simp [ih]
theorem strs_get {vs : List Value} {xs : List Str} (h : StrsAre vs xs) : ∀ {i : Nat} {x : Str}, xs[i]? = some x → ∃ t, vs[i]? = some (.str x t) := by
  induction h with
  | nil => intro i x e; simp at e
  | cons n t _ ih =>
    intro i x e
    cases i with
    | zero => simp at e; subst e; exact ⟨t, rfl⟩
    | succ i => simpa using ih (by simpa using e)
theorem strs_get' {vs : List Value} {xs : List Str} (h : StrsAre vs xs) : ∀ {i : Nat} {v : Value}, vs[i]? = some v → ∃ x t, v = .str x t ∧ xs[i]? = some x := by
  induction h with
  | nil => intro i x e; simp at e
  | cons n t _ ih =>
    intro i x e
    cases i with
    | zero => simp at e; subst e; exact ⟨n, t, rfl, rfl⟩
    | succ i => simpa using ih (by simpa using e)

section
variable {prog : Program} {w : World} {A : Around} {E : Value → Shared → Prop} {T : List Addr} {s₀ s : Shared} {L : Addr} {m : Str → Option Value} {nw pre post : List (Addr × OS)} {env : Env} {x : Str} {pos np apos : Pos} {v : Value}
  {Q : Value → Shared → Prop} {e o : Expr} {rest : List Expr} {name : Str} {Ty id : String}

/-- a method with arguments, one without -/
theorem mC (pa : PlainAttrs Ty) (slot : Slot Ty name id) (hty : typeOf (.builtin id) = pure (.type "method_descriptor"))
    (h : wpAny (model prog w) A (eval o env) (fun ov s₁ => s₁.TypeIs ov Ty ∧ (∀ a, ov = .ref a → ∃ ob, s₁.heap.get? a = some ob ∧ ob.dict = none) ∧
      wpAny (model prog w) A (spliced (backTo pos (starEach (e :: rest) env))) (fun vs s₂ => wpAny (model prog w) A (call (.builtin id) (ov :: vs)) Q E s₂) E s₁) E s)
    (hbase : attributeBase o name env (eval o env) = eval o env := by rfl)
    (he : starEach (e :: rest) env = (false, eval e env) :: starEach rest env := by rfl) (hplain : (backTo pos (starEach rest env)).any (·.1) = false := by rfl)
    (hfew : ((backTo pos (starEach (e :: rest) env)).all (fun x => !x.1) && (backToKw pos (keywordEach [] env)).all (fun x => x.1.isSome)
      && decide ((e :: rest).length + ([] : List Keyword).length + (if ([] : List Keyword).isEmpty then 0 else 1) < 30)) = true := by rfl)
    (hline : (apos.endLine == pos.line) = true := by rfl) :
    wpAny (model prog w) A (eval (.Call (.Attribute o name apos) (e :: rest) [] pos) env) Q E s := by
  refine wpAny_Call_method hbase hfew hline pa slot hty (wpAny_mono h (fun ov s₁ h₁ => ⟨h₁.1, h₁.2.1, ?_⟩) fun _ _ x => x)
  have h₂ := h₁.2.2
  rw [he] at h₂ ⊢
  exact Calls.callWith_builtin (first := [ov]) (show (false || (backTo pos (starEach rest env)).any (·.1)) = false by rw [hplain]; rfl) (evalArgs_plain h₂)
theorem mC0 (pa : PlainAttrs Ty) (slot : Slot Ty name id) (hty : typeOf (.builtin id) = pure (.type "method_descriptor"))
    (h : wpAny (model prog w) A (eval o env) (fun ov s₁ => s₁.TypeIs ov Ty ∧ (∀ a, ov = .ref a → ∃ ob, s₁.heap.get? a = some ob ∧ ob.dict = none) ∧ wpAny (model prog w) A (call (.builtin id) [ov]) Q E s₁) E s)
    (hbase : attributeBase o name env (eval o env) = eval o env := by rfl) (hline : (apos.endLine == pos.line) = true := by rfl) :
    wpAny (model prog w) A (eval (.Call (.Attribute o name apos) [] [] pos) env) Q E s :=
  wpAny_Call_method hbase rfl hline pa slot hty (wpAny_mono h (fun ov s₁ h₁ => ⟨h₁.1, h₁.2.1, callWith_method0 (first := [ov]) h₁.2.2⟩) fun _ _ x => x)
/-- a method of a list: what it wants to know of it -/
theorem At.method {l : Addr} {vs : List Value} (h : At s.heap l (.vals vs)) : s.TypeIs (.ref l) "list" ∧ (∀ a, Value.ref l = .ref a → ∃ ob, s.heap.get? a = some ob ∧ ob.dict = none) := by
  obtain ⟨n, e⟩ := h.plain
  exact ⟨⟨_, e, rfl⟩, fun a q => by cases q; exact ⟨_, e, rfl⟩⟩

/-- list displays, tuples -/
theorem dL {elts : List Expr} (h : wpAny (model prog w) A (spliced (backTo pos (starEach elts env))) (fun vs s₁ => wpAny (model prog w) A (newList vs) Q E s₁) E s) : wpAny (model prog w) A (eval (.List elts pos) env) Q E s := List_ h
theorem dT {elts : List Expr} {k : Nat} (h : wpAny (model prog w) A (spliced (backTo pos (starEach elts env))) (fun vs s₁ => wpAny (model prog w) A (newTuple vs) Q E s₁) E s) : wpAny (model prog w) A (eval (.Tuple elts k pos) env) Q E s := Tuple_ h
theorem nwL {vs : List Value} (f : Fm T s₀ L m nw s) (h : ∀ l s', s.heap.objs.size ≤ l → Fm T s₀ L m ((l, .vals vs) :: nw) s' → Q (.ref l) s') (hsz : vs.length ≤ 1000000) : wpAny (model prog w) A (newList vs) Q E s :=
  wpAny_newObj_type (h _ _ (Nat.le_refl _) (f.alloc (sp := .vals vs) ⟨_, rfl⟩ rfl)) (by show vs.toArray.size ≤ sizeLine; rw [List.size_toArray, sizeLine_eq]; omega)
theorem nwI {vs : List Value} {xs : List Int} (f : Fm T s₀ L m nw s) (hi : IntsAre vs xs) (h : ∀ l s', s.heap.objs.size ≤ l → Fm T s₀ L m ((l, .intl xs) :: nw) s' → Q (.ref l) s') (hsz : xs.length ≤ 1000000) : wpAny (model prog w) A (newList vs) Q E s :=
  wpAny_newObj_type (h _ _ (Nat.le_refl _) (f.alloc (sp := .intl xs) ⟨_, _, rfl, hi⟩ rfl)) (by show vs.toArray.size ≤ sizeLine; rw [List.size_toArray, sizeLine_eq, ints_length hi]; omega)
theorem nwS {vs : List Value} {xs : List Str} (f : Fm T s₀ L m nw s) (hi : StrsAre vs xs) (h : ∀ l s', s.heap.objs.size ≤ l → Fm T s₀ L m ((l, .strl xs) :: nw) s' → Q (.ref l) s') (hsz : xs.length ≤ 1000000) : wpAny (model prog w) A (newList vs) Q E s :=
  wpAny_newObj_type (h _ _ (Nat.le_refl _) (f.alloc (sp := .strl xs) ⟨_, _, rfl, hi⟩ rfl)) (by show vs.toArray.size ≤ sizeLine; rw [List.size_toArray, sizeLine_eq, strs_length hi]; omega)
theorem nwT {vs : List Value} (f : Fm T s₀ L m nw s) (h : ∀ l s', s.heap.objs.size ≤ l → Fm T s₀ L m ((l, .tup vs) :: nw) s' → Q (.ref l) s') (hsz : vs.length ≤ 1000000) : wpAny (model prog w) A (newTuple vs) Q E s :=
  wpAny_newObj_type (h _ _ (Nat.le_refl _) (f.alloc (sp := .tup vs) ⟨rfl, _, rfl⟩ rfl)) (by show vs.toArray.size ≤ sizeLine; rw [List.size_toArray, sizeLine_eq]; omega)

/-- a list's append as a statement -/
theorem stApp {Q : Flow → Shared → Prop} {l : Addr} {vs : List Value} {ap : Pos} {p1 p2 : Pos} (f : Fm T s₀ L m nw s) (hx : m x = some (.ref l)) (hl : At s.heap l (.vals vs))
    (h : wpAny (model prog w) A (eval e env) (fun v s₁ => wpAny (model prog w) A (call (.builtin "list.append") [.ref l, v]) (fun v s' => match v with | .ref _ => False | _ => Q .next s') E s₁) E s)
    (hL : env.locals = L := by rfl) (hk : env.scope.kind = .function := by rfl) (hkx : env.kindOf x = some .local := by rfl) (hd : (x == ("__debug__" : Str)) = false := by decide)
    (he : starEach [e] env = [(false, eval e env)] := by rfl) (hline : (ap.endLine == p1.line) = true := by rfl) (hi : interactive env = false := by rfl) :
    wpAny (model prog w) A (exec (.Expr (.Call (.Attribute (.Name x np) "append" ap) [e] [] p1) p2) env) Q E s := by
  refine wpAny_Expr (mC F.plainAttrs_list F.slot_list_append F.type_list_append (nmL f hx ⟨hl.method.1, hl.method.2, spl (wpAny_mono h (fun v s₁ h₁ => spn h₁) fun _ _ x => x) he⟩ hL hk hkx hd) rfl he rfl ?_ hline) hi rfl
  rw [he]; rfl
/-- append of an int -/
theorem apI {l : Addr} {xs : List Int} {a : Int} {t : Tok} (f : Fm T s₀ L m (pre ++ (l, .intl xs) :: post) s) (h : ∀ s', Fm T s₀ L m (pre ++ (l, .intl (xs ++ [a])) :: post) s' → Q .none s') (hsz : xs.length ≤ 1000000) :
    wpAny (model prog w) A (call (.builtin "list.append") [.ref l, .int a t]) Q E s := by
  obtain ⟨vs, h1, h2⟩ := (f.at (a := l) (sp := .intl xs) (by simp)).intl
  refine wpAny_list_append_plain h1.plain (fun h' hl hs => h _ (f.change s.toks hs ?_)) (by rw [List.size_toArray, sizeLine_eq, ints_length h2]; omega)
  rw [List.push_toArray] at hl
  exact (At.of_plain hl).to_intl (ints_snoc h2 a t)
end

section
variable {prog : Program} {w : World} {A : Around} {E E₁ : Value → Shared → Prop} {T : List Addr} {s₀ s : Shared} {L : Addr} {m : Str → Option Value} {nw : List (Addr × OS)} {env : Env} {R : Result → Shared → Prop}
theorem dull_iter {ty : String} {vs : Array Value} (h : ∀ q t, vs[1]? ≠ some (Value.str q t)) : Dull { cls := .type ty, data := .fields vs } := fun vs' e => by
  cases e
  exact ⟨by simp, h⟩
/-- for x in range(n) -/
theorem forRange {x : Str} {px : Pos} {body : List Stmt} {n : Nat} {t : Tok} (hh : A.handled = none) (hn : n ≤ 1000000) (f : Fm T s₀ L m nw s) (J : Nat → (Str → Option Value) → List (Addr × OS) → Prop) (h0 : J 0 m nw)
    (step : ∀ (E' : Value → Shared → Prop) i t I m₁ nw₁ o s₁, i < n → J i m₁ nw₁ → Fm T s₀ L (upd m₁ x (.int (i : Nat) t)) ((I, .raw o) :: nw₁) s₁ →
      wpAny (model prog w) A (execs body env) (fun fl s₂ => match fl with
        | .next | .cont => ∃ m₂ nw₂, J (i + 1) m₂ nw₂ ∧ Fm T s₀ L m₂ ((I, .raw o) :: nw₂) s₂
        | .brk => R (.ok .next) s₂
        | .ret v => R (.ok (.ret v)) s₂) E' s₁)
    (hR : ∀ s' m' nw', J n m' nw' → Fm T s₀ L m' nw' s' → R (.ok .next) s')
    (hL : env.locals = L := by rfl) (hk : env.scope.kind = .function := by rfl) (hx : env.kindOf x = some .local := by rfl) :
    wpAny (model prog w) A (call (.type "range") [.int n t]) (fun v s₁ => wpAny (model prog w) A (pyIter v) (fun it s₂ => codeAny (model prog w) A (.forLoop (.Name x px) it body [] env) R s₂) E₁ s₁) E s := by
  refine call_range_1 ?_
  refine wpAny_pyIter_range (IsRange.new ..) (small_one (by omega) (by omega) (by omega) (by omega)) ?_
  have f₁ := (f.push { cls := .type "range", data := .fields #[.int 0 s.toks, .int n t, .int 1 (s.toks + 1)] }).tok (s.toks + 1 + 1)
  have hd : ∀ a b c : Int, Dull { cls := .type "range_iterator", data := .fields #[rawInt a, rawInt b, rawInt c] } := fun a b c => dull_iter (fun q t e => by simp [rawInt] at e)
  have f₂ := f₁.alloc (o := { cls := .type "range_iterator", data := .fields #[rawInt 0, rawInt (Builtin.Range.rangeSize 0 n 1), rawInt 1] }) (sp := .raw _) ⟨rfl, hd _ _ _⟩ rfl
  refine forW (Walks.range hh _ 0 1 n) ?_ (fun i h st => ⟨_, st, hd _ _ _⟩) J f₂ h0 (fun b hb hne => absurd (by simpa using hb) hne) (fun E' i v m₁ nw₁ o s₁ hi hv hJ g => ?_) hR hL hk hx
  · have e : Builtin.Range.rangeSize 0 n 1 = (n : Int) := by rw [rangeSize_one]; split <;> omega
    have e1 : (0 : Int) + ((0 : Nat) : Int) * 1 = 0 := by omega
    have e2 : (n : Int) - ((0 : Nat) : Int) = Builtin.Range.rangeSize 0 n 1 := by omega
    show IsRangeIter _ _ _ _ _
    rw [e1, e2]
    exact Heap.get?_push_size _ rfl
  · obtain ⟨t', rfl⟩ := hv
    refine step E' i t' _ m₁ nw₁ o s₁ hi hJ ?_
    have e : (0 : Int) + (i : Nat) * 1 = i := by omega
    rw [e] at g
    exact g
end
end Mine

/-! Mr4 -/
namespace Mine

/-! a function with cells of its own -/
def fenvC (st : Stmt) (f c L : Addr) : Env := newEnv (scopeOf st) L mainGlobals (cellsFrom (L + 1) (scopeOf st).names []) (nameOf st ++ ".<locals>.") (some f) (.ref c) none builtinsNs
def cellLed (cm : Str → Option Value) (cs : List (Str × Addr)) : List (Addr × OS) := cs.map fun p => (p.2, OS.cell (cm p.1))
section
variable {prog : Program} {w : World} {A : Around} {E : Value → Shared → Prop} {T : List Addr} {s : Shared} {Q : Value → Shared → Prop} {st : Stmt} {f c : Addr} {vals : List Value}
theorem fm_cells {s₁ : Shared} {L : Addr} {m cm : Str → Option Value} {names : List (Str × NameKind)} (W : Wd s.heap) (tb : Tb s.heap) (x : InCallC s L m (cellsFrom (L + 1) names []) cm s₁)
    (hnd : ((cellsFrom 0 names []).map (·.1)).Nodup) : Fm T s L m (cellLed cm (cellsFrom (L + 1) names [])) s₁ := by
  refine ⟨x.toInCall.same, x.toInCall.ns, .of_keeps x.toInCall.keep, x.toInCall.fresh, fun p hp => ?_, ?_, tb.keeps x.toInCall.keep, W⟩
  · obtain ⟨⟨n, a⟩, hm, rfl⟩ := List.mem_map.mp hp
    have hl := lookup_of_mem_nodup (cellsFrom_names names 0 (L + 1) [] [] rfl ▸ hnd) hm
    have ha := x.above n a hm
    exact ⟨x.cell n a hl, Nat.ne_of_gt ha, fun _ => Heap.get?_none_of_le (Nat.le_trans x.toInCall.fresh (Nat.le_of_lt ha))⟩
  · unfold cellLed
    rw [List.map_map, List.Nodup, List.pairwise_map]
    exact x.apart
theorem enterC (ns : List Str) (W : Wd s.heap) (tb : Tb s.heap) (F : Fn s.heap f c st) (hroom : A.depth < recursionLimit) (hb : ∀ doc pm ct, bindArgs (fdOf st doc pm (.ref c) ct) ⟨vals, []⟩ = pure (ns.zip vals))
    (hkind : ns.all (fun x => (scopeOf st).names.lookup x == some .local || ((scopeOf st).names.lookup x == some .cell && ((cellsFrom 0 (scopeOf st).names []).lookup x).isSome)) = true)
    (hnd : ((cellsFrom 0 (scopeOf st).names []).map (·.1)).Nodup)
    (hflags : ((scopeOf st).isCoroutine || (scopeOf st).isGenerator || (scopeOf st).kind != .function) = false)
    (h : ∀ (E' : Value → Shared → Prop) (L : Addr) (s₁ : Shared), Fm T s L (bindL (fenvC st f c L).kindOf (ns.zip vals) fun _ => none) (cellLed (bindC (fenvC st f c L).kindOf (ns.zip vals) fun _ => none) (cellsFrom (L + 1) (scopeOf st).names [])) s₁ →
      wpAny (model prog w) (A.deeper (fenvC st f c L)) (execs (bodyOf st) (fenvC st f c L)) (fun fl s' => Q (match fl with | .ret v => v | _ => .none) s') E' s₁) :
    wpAny (model prog w) A (call (.ref f) vals) Q E s := by
  obtain ⟨o, doc, pm, ct, h1, h2, h3⟩ := F
  simp only [Bool.or_eq_false_iff, bne_eq_false_iff_eq] at hflags
  refine wpAny_call (codeAny_call_cells hroom h1 h2 W.nl h3 rfl (hb doc pm ct) rfl (fun x hx => ?_) (fun s₁ x => ?_) hflags.1.1 hflags.1.2 hflags.2)
  · have := List.all_eq_true.mp hkind x.1 (List.of_mem_zip hx).1
    simp only [Bool.or_eq_true, Bool.and_eq_true, beq_iff_eq] at this
    refine this.imp id fun ⟨a, b⟩ => ⟨a, ?_⟩
    show ((cellsFrom (s.heap.objs.size + 1) (scopeOf st).names []).lookup x.1).isSome = true
    have e := cellsFrom_names (scopeOf st).names 0 (s.heap.objs.size + 1) [] [] rfl
    have key : ∀ (l : List (Str × Addr)) (y : Str), (l.lookup y).isSome = (l.map (·.1)).contains y := by
      intro l y
      induction l with
      | nil => rfl
      | cons p r ih =>
        obtain ⟨k, v⟩ := p
        rw [List.lookup_cons, List.map_cons, List.contains_cons]
        cases hyk : y == k with
        | true => rfl
        | false => simpa using ih
    rw [key] at b
    rw [key, ← e]
    exact b
  · exact h _ _ _ (fm_cells W tb x hnd)
end

section
variable {T : List Addr} {s₀ s : Shared} {L : Addr} {m : Str → Option Value} {nw pre post : List (Addr × OS)}
/-- an entry told otherwise -/
theorem Fm.respec {a : Addr} {sp sp' : OS} (f : Fm T s₀ L m (pre ++ (a, sp) :: post) s) (h : At s.heap a sp') (hc : sp.isCode = false := by rfl) : Fm T s₀ L m (pre ++ (a, sp') :: post) s :=
  ⟨f.same, f.ns, f.keep, f.above, fun p hp => by
    rcases List.mem_append.mp hp with hq | hq
    · exact f.new p (List.mem_append_left _ hq)
    · rcases List.mem_cons.mp hq with rfl | hq
      · exact ⟨h, (f.new (a, sp) (by simp)).2.1, fun _ => (f.new (a, sp) (by simp)).2.2 hc⟩
      · exact f.new p (List.mem_append_right _ (List.mem_cons_of_mem _ hq)), by simpa using f.nd, f.tb, f.wd⟩
theorem Fm.front {p : Addr × OS} (f : Fm T s₀ L m (pre ++ p :: post) s) : Fm T s₀ L m (p :: (pre ++ post)) s := f.perm List.perm_middle
theorem Fm.rawAt {a : Addr} {o : Obj} (f : Fm T s₀ L m nw s) (h : (a, OS.raw o) ∈ nw) : s.heap.get? a = some o := by
  obtain ⟨o', e, rfl, _⟩ := f.at h
  exact e
end

/-! tests -/
theorem iteT {b : Bool} {P R : Prop} (hb : b = true) (h : P) : (if b = true then P else R) := by rw [if_pos hb]; exact h
theorem iteF {b : Bool} {P R : Prop} (hb : b = false) (h : R) : (if b = true then P else R) := by rw [if_neg (by rw [hb]; decide)]; exact h
section
variable {prog : Program} {w : World} {A : Around} {E : Value → Shared → Prop} {T : List Addr} {s₀ s : Shared} {L : Addr} {m : Str → Option Value} {nw pre post : List (Addr × OS)} {env : Env} {x y : Str} {pos np apos : Pos} {v : Value}
  {Q : Value → Shared → Prop} {e o : Expr} {rest : List Expr}
/-- a call of a function that a local name holds -/
theorem cL {q : Addr} (f : Fm T s₀ L m nw s) (hv : m x = some (.ref q)) (F : FnAt q s.heap)
    (h : wpAny (model prog w) A (spliced (backTo pos (starEach (e :: rest) env))) (fun vs s₁ => FnAt q s₁.heap ∧ wpAny (model prog w) A (call (.ref q) vs) Q E s₁) E s)
    (hL : env.locals = L := by rfl) (hk : env.scope.kind = .function := by rfl) (hx : env.kindOf x = some .local := by rfl) (hd : (x == ("__debug__" : Str)) = false := by decide)
    (he : starEach (e :: rest) env = (false, eval e env) :: starEach rest env := by rfl) (hplain : (backTo pos (starEach rest env)).any (·.1) = false := by rfl) :
    wpAny (model prog w) A (eval (.Call (.Name x np) (e :: rest) [] pos) env) Q E s :=
  wpAny_Call_ofName (nmL f hv (callWith_F (first := []) F h he hplain) hL hk hx hd)
/-- a tuple of two unpacked into two locals -/
theorem unp2 {Q : Unit → Shared → Prop} {r : Addr} {v1 v2 : Value} {p1 p2 tp : Pos} {k : Nat} (hh : A.handled = none) (f : Fm T s₀ L m nw s) (hr : At s.heap r (.tup [v1, v2])) (h : ∀ s', Fm T s₀ L (upd (upd m x v1) y v2) nw s' → Q () s')
    (hL : env.locals = L := by rfl) (hk : env.scope.kind = .function := by rfl) (hx : env.kindOf x = some .local := by rfl) (hy : env.kindOf y = some .local := by rfl) :
    wpAny (model prog w) A (assign (.Tuple [.Name x p1, .Name y p2] k tp) env (.ref r)) Q E s := by
  refine wpAny_assign_Tuple hh (items := #[v1, v2]) hr.isTup rfl rfl fun h' he => ?_
  have f₁ := f.kept s.toks (h' := h') fun b o e => he b o (Nat.ne_of_lt (Heap.lt_size e)) e
  show wpAny _ _ (do holding [v2] (assign (.Name x p1) env v1); assignInOrder [assign (.Name y p2) env] [v2]) _ _ _
  refine wpAny_bind (wpAny_holding (wpAny_assign_Name (stL f₁ (fun s₂ f₂ => ?_) hL hk hx)))
  show wpAny _ _ (do holding [] (assign (.Name y p2) env v2); assignInOrder [] []) _ _ _
  exact wpAny_bind (wpAny_holding (wpAny_assign_Name (stL f₂ (fun s₃ f₃ => wpAny_pure (h s₃ f₃)) hL hk hy)))
/-- the same, the stores exchanged (a display on the right) -/
theorem unp2s {Q : Unit → Shared → Prop} {r : Addr} {v1 v2 : Value} (hh : A.handled = none) (f : Fm T s₀ L m nw s) (hr : At s.heap r (.tup [v1, v2])) (h : ∀ s', Fm T s₀ L (upd (upd m y v2) x v1) nw s' → Q () s')
    (hL : env.locals = L := by rfl) (hk : env.scope.kind = .function := by rfl) (hx : env.kindOf x = some .local := by rfl) (hy : env.kindOf y = some .local := by rfl) :
    wpAny (model prog w) A (unpackItems (.ref r) 2 none) (fun items s₂ => wpAny (model prog w) A (assignInOrder ([x, y].reverse.map fun n => bindName env n) items.reverse) Q E s₂) E s := by
  refine wpAny_unpackItems_tuple (items := #[v1, v2]) hh hr.isTup fun h' he => ?_
  have f₁ := f.kept s.toks (h' := h') fun b o e => he b o (Nat.ne_of_lt (Heap.lt_size e)) e
  show wpAny _ _ (do holding [v1] (bindName env y v2); assignInOrder [bindName env x] [v1]) _ _ _
  refine wpAny_bind (wpAny_holding (wpAny_bindName (stL f₁ (fun s₂ f₂ => ?_) hL hk hy)))
  show wpAny _ _ (do holding [] (bindName env x v1); assignInOrder [] []) _ _ _
  exact wpAny_bind (wpAny_holding (wpAny_bindName (stL f₂ (fun s₃ f₃ => wpAny_pure (h s₃ f₃)) hL hk hx)))

/-- for x in xs, xs a list that stands all the while: at the base, or in the ledger as it is -/
theorem forList {R : Result → Shared → Prop} {E₁ : Value → Shared → Prop} {px : Pos} {body : List Stmt} {a : Addr} {vs : List Value} {oa : Obj} (hh : A.handled = none) (f : Fm T s₀ L m nw s) (ha : s.heap.get? a = some oa) (hoa : OS.ok (.vals vs) oa)
    (J : Nat → (Str → Option Value) → List (Addr × OS) → Prop) (h0 : J 0 m nw) (hst : s₀.heap.get? a = some oa ∨ ∀ i m₁ nw₁, J i m₁ nw₁ → (a, OS.raw oa) ∈ nw₁)
    (step : ∀ (E' : Value → Shared → Prop) i v I m₁ nw₁ o s₁, vs[i]? = some v → J i m₁ nw₁ → Fm T s₀ L (upd m₁ x v) ((I, .raw o) :: nw₁) s₁ →
      wpAny (model prog w) A (execs body env) (fun fl s₂ => match fl with
        | .next | .cont => ∃ m₂ nw₂, J (i + 1) m₂ nw₂ ∧ Fm T s₀ L m₂ ((I, .raw o) :: nw₂) s₂
        | .brk => R (.ok .next) s₂
        | .ret v => R (.ok (.ret v)) s₂) E' s₁)
    (hR : ∀ s' m' nw', J vs.length m' nw' → Fm T s₀ L m' nw' s' → R (.ok .next) s')
    (hL : env.locals = L := by rfl) (hk : env.scope.kind = .function := by rfl) (hx : env.kindOf x = some .local := by rfl) :
    wpAny (model prog w) A (pyIter (.ref a)) (fun it s₂ => codeAny (model prog w) A (.forLoop (.Name x px) it body [] env) R s₂) E₁ s := by
  have hA : At s.heap a (.vals vs) := ⟨oa, ha, hoa⟩
  refine wpAny_pyIter_list hA.isList ?_
  have hd : ∀ i : Nat, Dull { cls := .type "list_iterator", data := .fields #[Value.ref a, .int i 0] } := fun i => dull_iter (fun q t e => by simp at e)
  have f₂ := f.alloc (o := { cls := .type "list_iterator", data := .fields #[.ref a, .int 0 0] }) (sp := .raw _) ⟨rfl, hd 0⟩ rfl
  have hne : a ≠ s.heap.objs.size := Nat.ne_of_lt (Heap.lt_size ha)
  refine forW (Walks.list hh _ a hne vs.toArray) ⟨⟨_, Heap.get?_push_size _ rfl, rfl, rfl⟩, hA.isList.push _⟩ (fun i h st => ?_) J f₂ h0 (fun b hb hbI => ?_) (fun E' i v m₁ nw₁ o s₁ hi hv hJ g => ?_) (fun s' m' nw' hJ g => hR s' m' nw' (by simpa using hJ) g) hL hk hx
  · obtain ⟨o, ho, hc, hdt⟩ := st.1
    refine ⟨o, ho, fun vs' e => ?_⟩
    rw [hdt] at e
    cases e
    exact ⟨by rw [hc]; simp, fun q t e => by simp at e⟩
  · have : b = a := by
      rcases List.mem_cons.mp hb with e | hb
      · exact absurd e hbI
      · simpa using hb
    subst this
    exact ⟨oa, hoa.dull, Heap.get?_push_of_some _ ha, hst⟩
  · exact step E' i v _ m₁ nw₁ o s₁ (by simpa using hv) hJ g
end
end Mine

/-! Ps -/
namespace Mine
open PySem.Builtin.Str PySem.StrLaws

/-! texts as lists of signs -/
def S (l : List Nat) : Str := ⟨l.toArray⟩
theorem S_inj {a b : List Nat} (h : S a = S b) : a = b := by
  have h1 := congrArg (fun x : Str => x.cps.toList) h
  exact h1
theorem S_cps (l : List Nat) : (S l).cps.toList = l := rfl
theorem S_len (l : List Nat) : (S l).length = l.length := by show l.toArray.size = _; simp
theorem S_app (a b : List Nat) : S a ++ S b = S (a ++ b) := Str.ext' (by show a.toArray ++ b.toArray = (a ++ b).toArray; simp)
theorem S_of (x : Str) : x = S x.cps.toList := Str.ext' (by show x.cps = x.cps.toList.toArray; simp)
theorem S_kind {l : List Nat} (h : ∀ c ∈ l, c < 256) : Builtin.Str.strKind (S l) = 1 := by
  unfold Builtin.Str.strKind
  rw [if_pos]
  rw [← Array.all_toList, S_cps, List.all_eq_true]
  intro c hc
  simpa using h c hc
theorem kind_ge (x : Str) : 1 ≤ Builtin.Str.strKind x := by
  unfold Builtin.Str.strKind
  split
  · omega
  · split <;> omega

theorem subAt_S (l y : List Nat) (i : Nat) : subAt (S l) (S y) i = ((l.drop i).take y.length == y) := by
  rw [subAt_eq, S_cps, S_cps, S_len]
theorem At_S (l y : List Nat) (i : Nat) : StrLaws.At (S l) (S y) (S l).length i ↔ i + y.length ≤ l.length ∧ (l.drop i).take y.length = y := by
  unfold StrLaws.At
  rw [S_len, S_len, subAt_S, beq_iff_eq]
/-- a text in a text -/
theorem contains_S (l y : List Nat) : Txt.contains (S l) (S y) = true ↔ ∃ i, i + y.length ≤ l.length ∧ (l.drop i).take y.length = y := by
  unfold Txt.contains
  rw [found_iff]
  simp only [S_len, subAt_S, beq_iff_eq]

/-- one sign becomes another: by split and join -/
theorem join_swap (c e : Nat) : ∀ parts : List Str, (∀ p ∈ parts, c ∉ p.cps.toList) → (Str.join ⟨#[e]⟩ parts).cps.toList = (Str.join ⟨#[c]⟩ parts).cps.toList.map fun d => if d = c then e else d
  | [], _ => rfl
  | [p], h => by
    show p.cps.toList = p.cps.toList.map _
    have h1 := h p (List.mem_singleton.mpr rfl)
    have : p.cps.toList.map (fun d => if d = c then e else d) = p.cps.toList.map id := List.map_congr_left fun d hd => if_neg fun (q : d = c) => h1 (q ▸ hd)
    rw [this, List.map_id]
  | p :: q :: r, h => by
    have ih := join_swap c e (q :: r) fun a ha => h a (List.mem_cons_of_mem _ ha)
    have h1 := h p List.mem_cons_self
    have h2 : p.cps.toList.map (fun d => if d = c then e else d) = p.cps.toList := by
      have : p.cps.toList.map (fun d => if d = c then e else d) = p.cps.toList.map id := List.map_congr_left fun d hd => if_neg fun (q : d = c) => h1 (q ▸ hd)
      rw [this, List.map_id]
    show (p ++ ⟨#[e]⟩ ++ Str.join ⟨#[e]⟩ (q :: r)).cps.toList = (p ++ ⟨#[c]⟩ ++ Str.join ⟨#[c]⟩ (q :: r)).cps.toList.map _
    simp only [Str.cps_append, Array.toList_append, List.map_append]
    rw [ih, h2]
    simp
theorem swap_S (l : List Nat) (c e : Nat) : Txt.join (S [e]) (Txt.split (S l) (S [c])) = S (l.map fun d => if d = c then e else d) := by
  show glued _ _ = _
  rw [glued_eq_join]
  refine Str.ext' (Array.toList_inj.mp ?_)
  show (Str.join ⟨#[e]⟩ (Txt.split (S l) ⟨#[c]⟩)).cps.toList = _
  rw [join_swap c e _ (split_free (S l) c), join_split]
  rfl

/-- three dots ahead, three dots behind -/
theorem split_dots (w : List Nat) (hw : 46 ∉ w) : Txt.split (S ([46, 46, 46] ++ w ++ [46, 46, 46])) (S [46, 46, 46]) = [S [], S w, S []] := by
  have hlen : (S ([46, 46, 46] ++ w ++ [46, 46, 46])).length = w.length + 6 := by rw [S_len]; simp <;> omega
  have hat : ∀ i, StrLaws.At (S ([46, 46, 46] ++ w ++ [46, 46, 46])) (S [46, 46, 46]) (S ([46, 46, 46] ++ w ++ [46, 46, 46])).length i → 3 ≤ i → i = w.length + 3 := by
    intro i h hi
    rw [At_S] at h
    obtain ⟨h1, h2⟩ := h
    simp only [List.length_append, List.length_cons, List.length_nil] at h1
    by_cases hlt : i < w.length + 3
    · exfalso
      have h3 : ((([46, 46, 46] ++ w ++ [46, 46, 46]).drop i).take [46, 46, 46].length)[0]? = some 46 := by rw [h2]; rfl
      rw [List.getElem?_take_of_lt (by decide), List.getElem?_drop] at h3
      rw [Nat.add_zero, List.getElem?_append_left (by simp <;> omega), List.getElem?_append_right (by simpa using hi)] at h3
      exact hw (List.mem_of_getElem? h3)
    · omega
  have at0 : StrLaws.At (S ([46, 46, 46] ++ w ++ [46, 46, 46])) (S [46, 46, 46]) (S ([46, 46, 46] ++ w ++ [46, 46, 46])).length 0 := by
    rw [At_S]
    refine ⟨by simp <;> omega, rfl⟩
  have atN : StrLaws.At (S ([46, 46, 46] ++ w ++ [46, 46, 46])) (S [46, 46, 46]) (S ([46, 46, 46] ++ w ++ [46, 46, 46])).length (w.length + 3) := by
    rw [At_S]
    refine ⟨by simp <;> omega, ?_⟩
    have e : ([46, 46, 46] ++ w).length = w.length + 3 := by simp <;> omega
    rw [← e, List.drop_left]
    rfl
  obtain ⟨f, hG, hn⟩ := occ_tight (S ([46, 46, 46] ++ w ++ [46, 46, 46])) (S [46, 46, 46]) (by decide)
  have hocc : occurrences (S ([46, 46, 46] ++ w ++ [46, 46, 46])) (S [46, 46, 46]) 0 (S ([46, 46, 46] ++ w ++ [46, 46, 46])).length ((S ([46, 46, 46] ++ w ++ [46, 46, 46])).length + 1) = [0, w.length + 3] := by
    generalize occurrences (S ([46, 46, 46] ++ w ++ [46, 46, 46])) (S [46, 46, 46]) 0 (S ([46, 46, 46] ++ w ++ [46, 46, 46])).length ((S ([46, 46, 46] ++ w ++ [46, 46, 46])).length + 1) = cuts at hG
    have h3 : (S [46, 46, 46]).length = 3 := rfl
    cases cuts with
    | nil =>
      have e : f = 0 := hG
      exact absurd at0 (hn 0 (by omega))
    | cons c r =>
      obtain ⟨_, _, hfree, hG⟩ := hG
      have hc0 : c = 0 := by
        by_cases h : c = 0
        · exact h
        · exact absurd at0 (hfree 0 (Nat.le_refl _) (by omega))
      subst hc0
      rw [h3] at hG
      cases r with
      | nil =>
        have e : f = 3 := hG
        exact absurd atN (hn _ (by omega))
      | cons d q =>
        obtain ⟨hd3, hd, _, hG⟩ := hG
        have ed := hat d hd (by omega)
        subst ed
        cases q with
        | nil => rfl
        | cons u v =>
          obtain ⟨hu3, hu, _⟩ := hG
          rw [h3] at hu3
          have := hat u hu (by omega)
          omega
  unfold Txt.split
  rw [if_neg]
  · rw [hocc]
    rw [if_neg (by simp), partsBetween_eq]
    have h3 : (S [46, 46, 46]).length = 3 := rfl
    show [strSub _ 0 0, strSub _ (0 + (S [46, 46, 46]).length) (w.length + 3), strSub _ (w.length + 3 + (S [46, 46, 46]).length) _] = _
    have sub : ∀ (l : List Nat) (i j : Nat), strSub (S l) i j = S ((l.drop i).take (j - i)) := fun l i j => by
      refine Str.ext' (Array.toList_inj.mp ?_)
      rw [strSub_toList]
      rfl
    rw [h3, sub, sub, sub, hlen]
    congr 1
    congr 1
    · congr 1
      rw [List.append_assoc]
      show List.take (w.length + 3 - 3) (w ++ _) = w
      rw [Nat.add_sub_cancel, List.take_left]
    · congr 1
      have e : ([46, 46, 46] ++ w).length = w.length + 3 := by simp <;> omega
      rw [show w.length + 6 - (w.length + 3 + 3) = 0 by omega, List.take_zero]
  · have k1 := kind_ge (S ([46, 46, 46] ++ w ++ [46, 46, 46]))
    have k2 : Builtin.Str.strKind (S [46, 46, 46]) = 1 := by decide +kernel
    have h3 : (S [46, 46, 46]).length = 3 := rfl
    rw [Bool.or_eq_true, decide_eq_true_eq, decide_eq_true_eq, k2, h3, hlen]
    omega
theorem contains_dots (w : List Nat) : Txt.contains (S ([46, 46, 46] ++ w ++ [46, 46, 46])) (S [46, 46, 46]) = true := by
  rw [contains_S]
  exact ⟨0, by simp <;> omega, rfl⟩
end Mine

/-! Mr5 -/
namespace Mine
open PySem.Builtin PySem.Builtin.Str

theorem strs_values {vs : List Value} {xs : List Str} (h : StrsAre vs xs) : ∃ l, vs = strValues l ∧ l.map (·.1) = xs := by
  induction h with
  | nil => exact ⟨[], rfl, rfl⟩
  | cons y t _ ih => obtain ⟨l, rfl, rfl⟩ := ih; exact ⟨(y, t) :: l, rfl, rfl⟩
theorem values_strs (l : List (Str × Tok)) : StrsAre (strValues l) (l.map (·.1)) := by
  induction l with
  | nil => exact .nil
  | cons p r ih => exact .cons p.1 p.2 ih

section
variable {prog : Program} {w : World} {A : Around} {E : Value → Shared → Prop} {T : List Addr} {s₀ s : Shared} {L : Addr} {m : Str → Option Value} {nw : List (Addr × OS)} {x y : Str} {t u : Tok} {Q : Value → Shared → Prop}

theorem oNotIn (h : Q (.bool (!Txt.contains x y)) s) : wpAny (model prog w) A (compareOp .NotIn (.str y u) (.str x t)) Q E s := P.notIn_str h
theorem oCat (f : Fm T s₀ L m nw s) (hsz : x.length + y.length ≤ 1000000) (h : ∀ t s', Fm T s₀ L m nw s' → Q (.str (x ++ y) t) s') : wpAny (model prog w) A (binaryOp .Add (.str x t) (.str y u)) Q E s :=
  PyProof.Rows.add_str (fun t' tk => h _ _ (f.tok tk)) (by rw [sizeLine_eq]; omega)
theorem oSplit (f : Fm T s₀ L m nw s) (hy : 1 ≤ y.length) (hx : x.length ≤ 1000000) (h : ∀ l s', s.heap.objs.size ≤ l → Fm T s₀ L m ((l, .strl (Txt.split x y)) :: nw) s' → Q (.ref l) s') :
    wpAny (model prog w) A (call (.builtin "str.split") [.str x t, .str y u]) Q E s := by
  have hy' : (y.length == 0) = false := by rw [beq_eq_false_iff_ne]; omega
  have push : ∀ (l : List (Str × Tok)) (tk : Tok), l.map (·.1) = Txt.split x y → Q (.ref s.heap.objs.size) { s with heap := s.heap.push { cls := .type "list", data := .seq (strValues l).toArray }, toks := tk } := fun l tk e => by
    refine h _ _ (Nat.le_refl _) ?_
    exact (f.tok tk).alloc (sp := .strl (Txt.split x y)) ⟨_, _, rfl, e ▸ values_strs l⟩ rfl
  cases h1 : (decide (x.length < y.length) || decide (Builtin.Str.strKind x < Builtin.Str.strKind y)) with
  | true => exact call_meets F.slot_str_split (typeIs_str _ _ _) F.entry_str_split (F.args_str_split_2 _ _) (meets_str_split_cannot_occur x y t u h1) (push [(x, t)] _ (if_pos h1).symm)
  | false =>
    cases hf : (occurrences x y 0 x.length (x.length + 1)).isEmpty with
    | true => exact call_meets F.slot_str_split (typeIs_str _ _ _) F.entry_str_split (F.args_str_split_2 _ _) (meets_str_split_not_found x y t u h1 hy' hf) (push [(x, t)] _ ((if_neg (ne_true_of_eq_false h1)).trans (if_pos hf)).symm)
    | false =>
      have e : Txt.split x y = partsBetween x (occurrences x y 0 x.length (x.length + 1)) y.length := (if_neg (ne_true_of_eq_false h1)).trans (if_neg (ne_true_of_eq_false hf))
      have hn : (Txt.split x y).length ≤ x.length + 2 := split_le x y
      refine call_meets F.slot_str_split (typeIs_str _ _ _) F.entry_str_split (F.args_str_split_2 _ _) (meets_str_split_sep x y t u h1 hy' hf (by rw [sizeLine_eq]; omega) (by rw [← e, sizeLine_eq]; omega)) ?_
      show Q (.ref s.heap.objs.size) { s with toks := _, heap := s.heap.push { cls := .type "list", data := .seq (strsFrom s.toks (partsBetween x (occurrences x y 0 x.length (x.length + 1)) y.length)).toArray } }
      rw [strsFrom_eq]
      exact push (numbered s.toks _) _ ((numbered_texts _ _).trans e.symm)
theorem oJoin {l : Addr} {xs : List Str} (f : Fm T s₀ L m nw s) (hl : At s.heap l (.strl xs)) (hsz : (xs.map (·.length)).sum + xs.length * x.length ≤ 1000000) (h : ∀ t s', Fm T s₀ L m nw s' → Q (.str (Txt.join x xs) t) s') :
    wpAny (model prog w) A (call (.builtin "str.join") [.str x t, .ref l]) Q E s := by
  obtain ⟨vs, hv, hs⟩ := hl.strl
  obtain ⟨l', rfl, e⟩ := strs_values hs
  refine SC.join hv.isList e ?_ fun t' k => h _ _ (f.tok k)
  unfold JoinOk
  rw [StrLaws.joinTotal]
  show (!decide _) = true
  simp only [Bool.not_eq_true', decide_eq_false_iff_not]
  first
    | (show ¬ _ > sizeLine; rw [sizeLine_eq]; omega)
    | (simp; omega)
/-- x.find(y, i, len(x)) -/
theorem oFind {i : Int} {v v' : Tok} (f : Fm T s₀ L m nw s) (hi : 0 ≤ i) (h : ∀ t s', Fm T s₀ L m nw s' → Q (.int (match occurrences x y i.toNat x.length 1 with | k :: _ => (k : Int) | [] => -1) t) s') :
    wpAny (model prog w) A (call (.builtin "str.find") [.str x t, .str y u, .int i v, .int x.length v']) Q E s := by
  refine call_gives F.slot_str_find (typeIs_str _ _ _) F.entry_str_find (F.args_str_find_4 _ _ _ _) (m := .int (match occurrences x y i.toNat x.length 1 with | k :: _ => (k : Int) | [] => -1)) ?_ (h _ _ (f.tok _))
  have e1 : ((max 0 (if i < 0 then i + x.length else i)).toNat) = i.toNat := by rw [if_neg (by omega)]; omega
  have e2 : min ((max 0 (if (x.length : Int) < 0 then (x.length : Int) + x.length else x.length)).toNat) x.length = x.length := by rw [if_neg (by omega)]; omega
  show Gives (match occurrences x y ((max 0 (if i < 0 then i + x.length else i)).toNat) (min ((max 0 (if (x.length : Int) < 0 then (x.length : Int) + x.length else x.length)).toNat) x.length) 1 with | k :: _ => retInt k | [] => (do rule "str.find.not-found"; retInt (-1))) _
  rw [e1, e2]
  cases occurrences x y i.toNat x.length 1 with
  | nil => exact .rule (.of_eq rfl)
  | cons k _ => exact .of_eq rfl
theorem oLenS (f : Fm T s₀ L m nw s) (hx : x.length ≤ 1000000) (h : ∀ t s', Fm T s₀ L m nw s' → Q (.int x.length t) s') : wpAny (model prog w) A (call (.builtin "len") [.str x t]) Q E s := P.len_str (by omega) (h _ _ (f.tok _))
theorem oLenL {l : Addr} {vs : List Value} (f : Fm T s₀ L m nw s) (hl : s.heap.IsList l vs.toArray) (hx : vs.length ≤ 1000000) (h : ∀ t s', Fm T s₀ L m nw s' → Q (.int vs.length t) s') : wpAny (model prog w) A (call (.builtin "len") [.ref l]) Q E s :=
  PyProof.Rows.len_list hl (by rw [List.size_toArray]; omega) (by rw [List.size_toArray]; exact h _ _ (f.tok _))
theorem oTruS (f : Fm T s₀ L m nw s) {Q : Bool → Shared → Prop} (hx : x.length ≤ 1000000) (h : ∀ s', Fm T s₀ L m nw s' → Q (decide (x.length ≠ 0)) s') : wpAny (model prog w) A (truthy (.str x t)) Q E s := by
  refine P.truthy_str (by omega) ?_
  have e : ((x.length : Int) != 0) = decide (x.length ≠ 0) := by
    cases x.length with
    | zero => rfl
    | succ n => simp; omega
  rw [e]
  exact h _ (f.tok _)

theorem ldL {env : Env} {x : Str} {v : Value} (f : Fm T s₀ L m nw s) (hv : m x = some v) (h : Q v s) (hL : env.locals = L := by rfl) (hk : env.scope.kind = .function := by rfl)
    (hx : env.kindOf x = some .local := by rfl) : wpAny (model prog w) A (loadName env x) Q E s := wpAny_loadName_local hk hx (hL ▸ f.ns) hv h
theorem oIadd {a b : Int} (f : Fm T s₀ L m nw s) (h : ∀ t s', Fm T s₀ L m nw s' → Q (.int (a + b) t) s') : wpAny (model prog w) A (inplaceOp .Add (.int a t) (.int b u)) Q E s := P.iadd_int (h _ _ (f.tok _))
theorem oNeg {a : Int} (f : Fm T s₀ L m nw s) (h : ∀ t s', Fm T s₀ L m nw s' → Q (.int (-a) t) s') : wpAny (model prog w) A (unaryOp .USub (.int a t)) Q E s := P.neg_int (h _ _ (f.tok _))
theorem oShr1 {a : Int} (f : Fm T s₀ L m nw s) (h0 : 0 ≤ a) (h : ∀ t s', Fm T s₀ L m nw s' → Q (.int (a / 2) t) s') : wpAny (model prog w) A (binaryOp .RShift (.int a t) (.int 1 u)) Q E s := wpAny_rshift1_int h0 (h _ _ (f.tok _))
/-! subscripts -/
theorem sbS {value slice : Expr} {i : Value} (hg : wpAny (model prog w) A (getItem (.str x t) i) Q E s) (ops : List Value) (hs : subscripted slice false (.str x t) i = operate ops (getItem (.str x t) i)) : wpAny (model prog w) A (subscriptTail value slice (.str x t) i) Q E s :=
  tail_any (typeIs_str _ _ _) F.slot_str_getitem.lookup hg hs
theorem sbL {value slice : Expr} {i : Value} {l : Addr} {vs : List Value} (hl : s.heap.IsList l vs.toArray) (hg : wpAny (model prog w) A (getItem (.ref l) i) Q E s) (ops : List Value) (hs : subscripted slice false (.ref l) i = operate ops (getItem (.ref l) i)) :
    wpAny (model prog w) A (subscriptTail value slice (.ref l) i) Q E s := tail_any hl.typeIs PySem.slot_list_getitem.lookup hg hs
theorem sbT {value slice : Expr} {i : Value} {l : Addr} {vs : List Value} (hl : At s.heap l (.tup vs)) (hg : wpAny (model prog w) A (getItem (.ref l) i) Q E s) (ops : List Value) (hs : subscripted slice false (.ref l) i = operate ops (getItem (.ref l) i)) :
    wpAny (model prog w) A (subscriptTail value slice (.ref l) i) Q E s := tail_any hl.isTup.typeIs PyProof.Rows.slot_tuple_getitem.lookup hg hs
theorem gS {l : List Nat} {i c : Nat} (f : Fm T s₀ L m nw s) (hc : l[i]? = some c) (hl : l.length ≤ 1000000) (h : ∀ t s', Fm T s₀ L m nw s' → Q (.str (S [c]) t) s') : wpAny (model prog w) A (getItem (.str (S l) t) (.int i u)) Q E s := by
  have hlt : i < l.length := (List.getElem?_eq_some_iff.mp hc).1
  refine P.getItem_str (c := c) (by simp; omega) ?_ (h _ _ (f.tok _))
  rw [StrLaws.seqIndex_nonneg (by omega) (by rw [S_len]; omega)]
  show (S l).cps[(i : Int).toNat]? = some c
  rw [Int.toNat_natCast, ← Array.getElem?_toList]
  exact hc
end
end Mine

/-! Mr6 -/
namespace Mine
open PySem.Builtin PySem.Builtin.Str

theorem ints_drop {vs : List Value} {xs : List Int} (h : IntsAre vs xs) : ∀ k, IntsAre (vs.drop k) (xs.drop k) := by
  induction h with
  | nil => intro k; simpa using IntsAre.nil
  | cons n t h ih => intro k; cases k with | zero => exact .cons n t h | succ k => exact ih k
theorem ints_take {vs : List Value} {xs : List Int} (h : IntsAre vs xs) : ∀ k, IntsAre (vs.take k) (xs.take k) := by
  induction h with
  | nil => intro k; simpa using IntsAre.nil
  | cons n t h ih => intro k; cases k with | zero => exact .nil | succ k => exact .cons n t (ih k)
theorem ints_reverse {vs : List Value} {xs : List Int} (h : IntsAre vs xs) : IntsAre vs.reverse xs.reverse := by
  induction h with
  | nil => exact .nil
  | cons n t h ih => rw [List.reverse_cons, List.reverse_cons]; exact ints_snoc ih n t
theorem strs_drop {vs : List Value} {xs : List Str} (h : StrsAre vs xs) : ∀ k, StrsAre (vs.drop k) (xs.drop k) := by
  induction h with
  | nil => intro k; simpa using StrsAre.nil
  | cons n t h ih => intro k; cases k with | zero => exact .cons n t h | succ k => exact ih k

section
variable {prog : Program} {w : World} {A : Around} {E : Value → Shared → Prop} {T : List Addr} {s₀ s : Shared} {L : Addr} {m : Str → Option Value} {nw : List (Addr × OS)} {x y : Str} {t u : Tok} {Q : Value → Shared → Prop}

/-- a slice made: the subscript goes on -/
theorem slE {o vl vu vst : Value} {value slice : Expr} (f : Fm T s₀ L m nw s)
    (h : ∀ sl s', Fm T s₀ L m nw s' → s'.heap.IsSliceOf sl vl vu vst → (∀ b o, s.heap.get? b = some o → s'.heap.get? b = some o) → wpAny (model prog w) A (subscriptTail value slice o (.ref sl)) Q E s') :
    wpAny (model prog w) A (subscriptTail value slice o (.ref s.heap.objs.size)) Q E { s with heap := s.heap.push { cls := .type "slice", data := .fields #[vl, vu, vst] } } :=
  h _ _ (f.push _) (Heap.IsSliceOf.new ..) fun _ _ e => Heap.get?_push_of_some _ e
/-- t[a:] of a tuple -/
theorem gTupFrom {l sl : Addr} {vs : List Value} {a : Nat} {u : Tok} (f : Fm T s₀ L m nw s) (ht : At s.heap l (.tup vs)) (hs : s.heap.IsSliceOf sl (.int a u) .none .none) (h1 : 1 ≤ a) (ha : a ≤ vs.length) (hn : vs.length ≤ 1000000)
    (h : ∀ l' s', s.heap.objs.size ≤ l' → Fm T s₀ L m ((l', .tup (vs.drop a)) :: nw) s' → Q (.ref l') s') : wpAny (model prog w) A (getItem (.ref l) (.ref sl)) Q E s :=
  getItem_tuple_from ht.isTup hs h1 (by simpa using ha) (h _ _ (Nat.le_refl _) (f.alloc (sp := .tup (vs.drop a)) ⟨rfl, 0, by simp⟩ rfl)) (by rw [List.size_toArray, sizeLine_eq]; omega)
/-- t[k] of a tuple -/
theorem gTup {l : Addr} {vs : List Value} {k : Nat} {u : Tok} {v : Value} (ht : At s.heap l (.tup vs)) (hv : vs[k]? = some v) (hk : k ≤ 1000000) (h : Q v s) : wpAny (model prog w) A (getItem (.ref l) (.int k u)) Q E s := by
  have hlt : k < vs.length := (List.getElem?_eq_some_iff.mp hv).1
  exact getItem_tuple ht.isTup (by omega) (by omega) (StrLaws.seqIndex_nonneg (by omega) (by simp; omega)) (by simpa using hv) h
/-- xs[k] of a list -/
theorem gLst {l : Addr} {vs : List Value} {k : Nat} {u : Tok} {v : Value} (ht : s.heap.IsList l vs.toArray) (hv : vs[k]? = some v) (hk : k ≤ 1000000) (h : Q v s) : wpAny (model prog w) A (getItem (.ref l) (.int k u)) Q E s :=
  wpAny_getItem_list ht (by omega) (by omega) (by simpa using hv) h
/-- x[:k], x[k:] of a text -/
theorem gStrTo {l : List Nat} {sl : Addr} {k : Nat} {uk : Tok} (f : Fm T s₀ L m nw s) (hs : s.heap.IsSliceOf sl .none (.int k uk) .none) (hk : k ≤ l.length) (hl : l.length ≤ 1000000) (h : ∀ t s', Fm T s₀ L m nw s' → Q (.str (S (l.take k)) t) s') :
    wpAny (model prog w) A (getItem (.str (S l) t) (.ref sl)) Q E s := by
  have e : Txt.slice (S l) none (some (k : Int)) = S (l.take k) := by
    have := StrLaws.sliceText_to (x := S l) (j := k) ⟨by omega, by rw [S_cps]; omega⟩
    rw [S_cps] at this
    refine Eq.trans this ?_
    simp [S]
  refine wpAny_getItem_str_slice (l := none) (u := some ((k : Int), uk)) (st := none) hs rfl (post_val_or_str ⟨?_, fun t' k' => ?_⟩)
  · exact Nat.le_trans (Txt.slice_le (S l) none (some (k : Int))) (by rw [S_len, sizeLine_eq]; omega)
  · have g := h t' _ (f.tok k')
    rw [← e] at g
    exact g
theorem gStrFrom {l : List Nat} {sl : Addr} {k : Nat} {uk : Tok} (f : Fm T s₀ L m nw s) (hs : s.heap.IsSliceOf sl (.int k uk) .none .none) (hk : k ≤ l.length) (hl : l.length ≤ 1000000) (h : ∀ t s', Fm T s₀ L m nw s' → Q (.str (S (l.drop k)) t) s') :
    wpAny (model prog w) A (getItem (.str (S l) t) (.ref sl)) Q E s := by
  have e : Txt.slice (S l) (some (k : Int)) none = S (l.drop k) := by
    have := StrLaws.sliceText_from (x := S l) (i := k) ⟨by omega, by rw [S_cps]; omega⟩
    rw [S_cps] at this
    refine Eq.trans this ?_
    have e2 : ((l.length : Int) - (k : Int)).toNat = l.length - k := by omega
    rw [e2, Int.toNat_natCast, List.take_of_length_le (by simp)]
    rfl
  refine wpAny_getItem_str_slice (l := some ((k : Int), uk)) (u := none) (st := none) hs rfl (post_val_or_str ⟨?_, fun t' k' => ?_⟩)
  · exact Nat.le_trans (Txt.slice_le (S l) (some (k : Int)) none) (by rw [S_len, sizeLine_eq]; omega)
  · have g := h t' _ (f.tok k')
    rw [← e] at g
    exact g
/-- xs[:k], xs[::-1] of a list of ints -/
theorem gLstTo {l sl : Addr} {vs : List Value} {xs : List Int} {k : Nat} {uk : Tok} (f : Fm T s₀ L m nw s) (ht : s.heap.IsList l vs.toArray) (hi : IntsAre vs xs) (hs : s.heap.IsSliceOf sl .none (.int k uk) .none) (hl : vs.length ≤ 1000000)
    (h : ∀ l' s', s.heap.objs.size ≤ l' → Fm T s₀ L m ((l', .intl (xs.take k)) :: nw) s' → Q (.ref l') s') : wpAny (model prog w) A (getItem (.ref l) (.ref sl)) Q E s := by
  refine wpAny_getItem_list_slice ht hs .none (.int k uk) .none (by simp) ?_ (by rw [List.size_toArray, sizeLine_eq]; omega)
  rw [slicePick_upto']
  exact h _ _ (Nat.le_refl _) (f.alloc (sp := .intl (xs.take k)) ⟨_, _, rfl, by simpa using ints_take hi k⟩ rfl)
theorem gLstRev {l sl : Addr} {vs : List Value} {xs : List Int} {uk : Tok} (f : Fm T s₀ L m nw s) (ht : s.heap.IsList l vs.toArray) (hi : IntsAre vs xs) (hs : s.heap.IsSliceOf sl .none .none (.int (-1) uk)) (hl : vs.length ≤ 1000000)
    (h : ∀ l' s', s.heap.objs.size ≤ l' → Fm T s₀ L m ((l', .intl xs.reverse) :: nw) s' → Q (.ref l') s') : wpAny (model prog w) A (getItem (.ref l) (.ref sl)) Q E s := by
  refine wpAny_getItem_list_slice ht hs .none .none (.int (-1) uk) (by simp) ?_ (by rw [List.size_toArray, sizeLine_eq]; omega)
  rw [krv_pick]
  exact h _ _ (Nat.le_refl _) (f.alloc (sp := .intl xs.reverse) ⟨_, _, rfl, by simpa using ints_reverse hi⟩ rfl)
theorem oTruT {l : Addr} {vs : List Value} {Q : Bool → Shared → Prop} (f : Fm T s₀ L m nw s) (ht : At s.heap l (.tup vs)) (hl : vs.length ≤ 1000000) (h : ∀ s', Fm T s₀ L m nw s' → Q (!vs.isEmpty) s') : wpAny (model prog w) A (truthy (.ref l)) Q E s := by
  refine truthy_tuple ht.isTup (by rw [List.size_toArray]; omega) ?_
  have e : vs.toArray.isEmpty = vs.isEmpty := by simp
  rw [e]
  exact h _ (f.tok _)
/-- list + list -/
theorem oCatI {l l' : Addr} {xs ys : List Int} (f : Fm T s₀ L m nw s) (hl : Il s.heap l xs) (hl' : Il s.heap l' ys) (hsz : xs.length + ys.length ≤ 1000000)
    (h : ∀ r s', s.heap.objs.size ≤ r → Fm T s₀ L m ((r, .intl (xs ++ ys)) :: nw) s' → Q (.ref r) s') : wpAny (model prog w) A (binaryOp .Add (.ref l) (.ref l')) Q E s := by
  obtain ⟨vs, h1, h2⟩ := hl
  obtain ⟨ws, h3, h4⟩ := hl'
  refine add_arrays (fr_all f.ns) (news_all s.heap L) h1 h3 (fun h' F N => h _ _ (Nat.le_refl _) (f.byNewsA s.toks F N (Nat.le_refl _) ⟨_, _, rfl, ints_append h2 h4⟩)) ?_
  rw [List.size_toArray, List.size_toArray, sizeLine_eq, ints_length h2, ints_length h4]
  omega
theorem oCatS {l l' : Addr} {xs ys : List Str} (f : Fm T s₀ L m nw s) (hl : At s.heap l (.strl xs)) (hl' : At s.heap l' (.strl ys)) (hsz : xs.length + ys.length ≤ 1000000)
    (h : ∀ r s', s.heap.objs.size ≤ r → Fm T s₀ L m ((r, .strl (xs ++ ys)) :: nw) s' → Q (.ref r) s') : wpAny (model prog w) A (binaryOp .Add (.ref l) (.ref l')) Q E s := by
  obtain ⟨vs, h1, h2⟩ := hl.strl
  obtain ⟨ws, h3, h4⟩ := hl'.strl
  refine add_arrays (fr_all f.ns) (news_all s.heap L) h1.isList h3.isList (fun h' F N => h _ _ (Nat.le_refl _) (f.byNewsA s.toks F N (Nat.le_refl _) ⟨_, _, rfl, strs_append h2 h4⟩)) ?_
  rw [List.size_toArray, List.size_toArray, sizeLine_eq, strs_length h2, strs_length h4]
  omega
theorem foldl_replicate (v : Value) : ∀ (n : Nat) (acc : Array Value), List.foldl (fun x1 x2 => x1 ++ x2) acc (List.replicate n #[v]) = acc ++ (List.replicate n v).toArray
  | 0, acc => by simp
  | n + 1, acc => by
    rw [List.replicate_succ, List.foldl_cons, foldl_replicate v n, List.replicate_succ]
    apply Array.toList_inj.mp
    simp
theorem ints_replicate (a : Int) (t : Tok) : ∀ n : Nat, IntsAre (List.replicate n (.int a t)) (List.replicate n a)
  | 0 => .nil
  | n + 1 => .cons a t (ints_replicate a t n)
/-- [a] * n -/
theorem oRepI {l : Addr} {a k : Int} (f : Fm T s₀ L m nw s) (hl : At s.heap l (.intl [a])) (h0 : -1000000 ≤ k) (h1 : k ≤ 1000000) (h : ∀ r s', s.heap.objs.size ≤ r → Fm T s₀ L m ((r, .intl (List.replicate k.toNat a)) :: nw) s' → Q (.ref r) s') :
    wpAny (model prog w) A (binaryOp .Mult (.ref l) (.int k u)) Q E s := by
  obtain ⟨vs, hv, h2⟩ := hl.intl
  obtain ⟨n, hv⟩ := hv.plain
  cases h2 with
  | cons _ tk hnil =>
    cases hnil
    refine mul_list (fr_all f.ns) (news_all s.heap L) hv (by omega) (by omega) (by simp; omega) (fun h' F N => h _ _ (Nat.le_refl _) ?_)
    rw [if_neg (by simp), foldl_replicate, Array.empty_append] at N
    exact f.byNewsA s.toks F N (Nat.le_refl _) ⟨_, _, rfl, ints_replicate a tk _⟩
end
end Mine

/-! Mr7 -/
namespace Mine

theorem TbAt.extBut {h h' : Heap} {P P' q pos} (x : TbAt h P q pos) (hne : P ≠ P') (hP' : ∃ ps, h.get? P' = some (tabObj ps) ∧ ps.size ≤ 0) (k : Heap.ExtBut P' h h') : TbAt h' P q pos := by
  obtain ⟨ps, e, r⟩ := x
  refine ⟨ps, k _ _ hne e, r.imp id ?_⟩
  rintro ⟨c', e', c, o, vs, t, e1, e2, e3, e4⟩
  refine ⟨c', e', c, o, vs, t, e1, k _ _ ?_ e2, e3, e4⟩
  rintro rfl
  obtain ⟨ps', e5, h5⟩ := hP'
  rw [e2] at e5
  cases e5
  cases e3
  have : vs[1]? = none := by rw [Array.getElem?_eq_none]; omega
  rw [this] at e4; cases e4

/-- which of the three tables -/
inductive TabRow : Addr → Addr → Str → Pos → Prop where
  | i : TabRow 48 44 qI2d (posOf i2d)
  | d : TabRow 55 51 qD2i (posOf d2i)
  | s : TabRow 102 98 qShn (posOf shn)
theorem TabRow.get {c P : Addr} {q : Str} {pos : Pos} (r : TabRow c P q pos) {h : Heap} (x : Tb h) : TbAt h P q pos := by
  cases r
  · exact x.i
  · exact x.d
  · exact x.s
theorem TabRow.code {c P : Addr} {q : Str} {pos : Pos} (r : TabRow c P q pos) {h : Heap} (x : Wd h) : CodeHd h c P := by
  cases r
  · exact x.c48
  · exact x.c55
  · exact x.c102
theorem TabRow.blt {c P : Addr} {q : Str} {pos : Pos} (r : TabRow c P q pos) {h : Heap} (x : Wd h) : ∃ mg, h.Ns mainGlobals mg ∧ h.BuiltinsAt mg P := by
  obtain ⟨mg, h1, _, _, h4, h5, h6⟩ := x.g
  cases r
  · exact ⟨mg, h1, h4⟩
  · exact ⟨mg, h1, h5⟩
  · exact ⟨mg, h1, h6⟩
theorem TabRow.ne3 {c P : Addr} {q : Str} {pos : Pos} (r : TabRow c P q pos) : mainGlobals ≠ P := by cases r <;> decide
theorem TabRow.put {c P : Addr} {q : Str} {pos : Pos} (r : TabRow c P q pos) {h h' : Heap} (x : Tb h) (e : h.get? P = some (tabObj #[])) (k : Heap.ExtBut P h h') (n : TbAt h' P q pos) : Tb h' := by
  have hP : ∃ ps, h.get? P = some (tabObj ps) ∧ ps.size ≤ 0 := ⟨_, e, Nat.le_refl _⟩
  cases r
  · exact ⟨n, x.d.extBut (by decide) hP k, x.s.extBut (by decide) hP k⟩
  · exact ⟨x.i.extBut (by decide) hP k, n, x.s.extBut (by decide) hP k⟩
  · exact ⟨x.i.extBut (by decide) hP k, x.d.extBut (by decide) hP k, n⟩

section
variable {M : Model} {A : Around} {E : Value → Shared → Prop} {T : List Addr} {s₀ s : Shared} {L : Addr} {m : Str → Option Value} {nw : List (Addr × OS)} {env : Env}
/-- a nested def: the function is made -/
theorem mkFn {Q : Value → Shared → Prop} {c P : Addr} {name qual : Str} {params : Arguments} {body : List Stmt} {scope : Scope} {pos : Pos} {clos : List (Str × Addr)} {fl : Nat} (r : TabRow c P qual pos) (f : Fm T s₀ L m nw s) (hPT : P ∈ T) (hnc : ∀ p ∈ nw, p.2.isCode = false)
    (hcl : closureFor scope env = pure clos) (hge : env.globals = mainGlobals) (hcode : env.code = .ref c)
    (h : ∀ q c' ctv doc pm s', s.heap.objs.size ≤ q → At s'.heap P .tab → Fm T s₀ L m ((q, .raw (fnMade name qual params body scope clos doc pm c' ctv)) :: (c', .code qual) :: nw) s' → Q (.ref q) s') :
    wpAny M A (makeFunction name qual params (.stmts body) scope env [] [] [] pos fl) Q E s := by
  have W := f.world
  obtain ⟨mg, hg, hb⟩ := r.blt W
  obtain ⟨ps, hP, hps⟩ := r.get f.tb
  have hfn : ∀ doc pm c' ctv, Dull (fnMade name qual params body scope clos doc pm c' ctv) := fun _ _ _ _ => dull_func rfl
  rcases hps with rfl | ⟨c', rfl, hrec⟩
  · refine makeFunction_K hcl hge hg hcode (r.code W) hP trivial rfl r.ne3 hb fun c' ctv doc h' tk hx hge' hlt hrec htb => ?_
    have nP : ∀ p ∈ nw, p.1 ≠ P := fun p hp e => by
      obtain ⟨o, e1, e2⟩ := (f.new p hp).1
      rw [e, hP] at e1; cases e1
      exact e2.ne rfl
    have LP : L ≠ P := by
      rintro rfl
      obtain ⟨o, es, ep, e1, e2, _⟩ := f.ns
      rw [hP] at e1; cases e1; cases e2
    have tbN : TbAt h' P qual pos := ⟨_, htb, .inr ⟨c', by simp, hrec⟩⟩
    have f₁ : Fm T s₀ L m nw { s with heap := h', toks := tk } := by
      refine ⟨by obtain ⟨h, t, rfl⟩ := f.same; exact ⟨h', tk, rfl⟩, f.ns.extBut hx LP, fun b o e n => ?_, f.above, fun p hp => ?_, f.nd, r.put f.tb hP hx tbN, f.wd⟩
      · have e1 := f.keep b o e n
        refine hx b o ?_ e1
        rintro rfl
        rw [hP] at e1; cases e1
        exact n hPT rfl
      · obtain ⟨o, e1, e2⟩ := (f.new p hp).1
        exact ⟨⟨o, hx _ _ (nP p hp) e1, e2⟩, (f.new p hp).2⟩
    obtain ⟨c₂, oc, vs, t, e2, hoc, hd, hv⟩ := hrec
    cases e2
    obtain ⟨a1, a2, a3⟩ := f.fits hge'
    have f₂ := f₁.add (sp := .code qual) ⟨oc, hoc, vs, t, hd, hv⟩ a1 a2 a3
    have f₃ := f₂.alloc (sp := .raw (fnMade name qual params body scope clos doc ((mg "__name__").getD .none) c' ctv)) ⟨rfl, hfn _ _ _ _⟩ rfl
    exact h _ _ _ _ _ _ (Nat.le_trans hge' (Nat.le_of_lt hlt)) ⟨_, Heap.get?_push_of_some _ htb, _, _, _, by simp; exact ⟨rfl, rfl, rfl⟩⟩ f₃
  · have ht : TriplesOk (#[rawInt pos.line, rawInt pos.col, Value.ref c'] : Array Value).toList := trivial
    have hf : codeAmong pos (#[rawInt pos.line, rawInt pos.col, Value.ref c'] : Array Value).toList = some (.ref c') := by
      show codeAmong pos [.int pos.line 0, .int pos.col 0, .ref c'] = _
      simp [codeAmong]
    refine makeFunction_hit hcl hge hg hcode (r.code W) hP ht hf hb fun ctv doc h' tk hk hsz => ?_
    have f₁ := f.kept tk hk
    obtain ⟨c₂, oc, vs, t, e2, hoc, hd, hv⟩ := hrec
    cases e2
    have hcode : ¬ Dull oc := fun d => (d vs hd).2 _ _ hv
    have f₂ : Fm T s₀ L m ((c', .code qual) :: nw) { s with heap := h', toks := tk } := by
      refine ⟨f₁.same, f₁.ns, f₁.keep, f₁.above, fun p hp => ?_, ?_, f₁.tb, f₁.wd⟩
      · rcases List.mem_cons.mp hp with rfl | hp
        · refine ⟨⟨oc, hk _ _ hoc, vs, t, hd, hv⟩, ?_, fun e => by cases e⟩
          rintro rfl
          obtain ⟨o, es, ep, e1, e2, _⟩ := f.ns
          rw [hoc] at e1; cases e1
          exact hcode (dull_dict e2)
        · exact f₁.new p hp
      · rw [List.map_cons, List.nodup_cons]
        refine ⟨fun hm => ?_, f.nd⟩
        obtain ⟨p, hp, e⟩ := List.mem_map.mp hm
        obtain ⟨o, e1, e2⟩ := (f.new p hp).1
        rw [e, hoc] at e1; cases e1
        exact hcode (e2.dull (hnc p hp))
    have f₃ := f₂.alloc (sp := .raw (fnMade name qual params body scope clos doc ((mg "__name__").getD .none) c' ctv)) ⟨rfl, hfn _ _ _ _⟩ rfl
    exact h _ _ _ _ _ _ hsz ⟨_, Heap.get?_push_of_some _ (hk _ _ hP), _, _, _, rfl⟩ f₃
theorem Fm.addTab' {P : Addr} (f : Fm T s₀ L m nw s) (h : At s.heap P .tab) (hn : ∀ p ∈ nw, p.2 ≠ .tab) : Fm T s₀ L m (nw ++ [(P, .tab)]) s :=
  (f.addTab h hn).perm (List.perm_append_singleton _ _).symm
end

/-! a call of a function made in the call -/
section
variable {prog : Program} {w : World} {A : Around} {E : Value → Shared → Prop} {T : List Addr} {s : Shared} {Q : Value → Shared → Prop} {q : Addr} {o : Obj} {fd : FuncData} {body : List Stmt} {vals : List Value}
theorem enterX (ns : List Str) (W : Wd s.heap) (tb : Tb s.heap) (ho : s.heap.get? q = some o) (hd : o.data = .func fd) (hcd : s.heap.CodeRec fd.code fd.qualname) (hbody : fd.body = .stmts body) (hroom : A.depth < recursionLimit)
    (hb : bindArgs fd ⟨vals, []⟩ = pure (ns.zip vals)) (hcell : (fd.scope.names.all fun x => x.2 != .cell) = true) (hloc : ns.all (fun x => fd.scope.names.lookup x == some .local) = true)
    (hflags : (fd.scope.isCoroutine || fd.scope.isGenerator || fd.scope.kind != .function) = false)
    (h : ∀ (E' : Value → Shared → Prop) (L : Addr) (s₁ : Shared), Fm T s L (fun x => (ns.zip vals).reverse.lookup x) [] s₁ →
      wpAny (model prog w) (A.deeper (callEnv fd L q)) (execs body (callEnv fd L q)) (fun fl s' => Q (match fl with | .ret v => v | _ => .none) s') E' s₁) :
    wpAny (model prog w) A (call (.ref q) vals) Q E s := by
  simp only [Bool.or_eq_false_iff, bne_eq_false_iff_eq] at hflags
  refine wpAny_call (codeAny_call_def hroom ho hd W.nl hcd hbody (BindsTo.of_eq hb) (fun x hx => ?_) (fun x hx => ?_) (fun h₀ hns hk => ?_) hflags.1.1 hflags.1.2 hflags.2)
  · have := List.all_eq_true.mp hcell x hx
    simpa using this
  · have := List.all_eq_true.mp hloc x.1 (List.of_mem_zip hx).1
    simpa using this
  · exact h _ s.heap.objs.size _ ⟨⟨_, _, rfl⟩, hns, .of_keeps hk, Nat.le_refl _, fun p hp => (by cases hp), List.nodup_nil, tb.keeps hk, W⟩
/-- a call of a function that a free name holds -/
theorem cF {M : Model} {env : Env} {x : Str} {np pos : Pos} {e : Expr} {rest : List Expr} {c : Addr} (hc : env.cells.lookup x = some c) (hm : At s.heap c (.cell (some (.ref q)))) (F : FnAt q s.heap)
    (h : wpAny M A (spliced (backTo pos (starEach (e :: rest) env))) (fun vs s₁ => FnAt q s₁.heap ∧ wpAny M A (call (.ref q) vs) Q E s₁) E s)
    (hk : env.scope.kind = .function := by rfl) (hx : env.kindOf x = some .free := by rfl) (hd : (x == ("__debug__" : Str)) = false := by decide) (hn : (x == ("__classdict__" : Str)) = false := by decide)
    (he : starEach (e :: rest) env = (false, eval e env) :: starEach rest env := by rfl) (hplain : (backTo pos (starEach rest env)).any (·.1) = false := by rfl) :
    wpAny M A (eval (.Call (.Name x np) (e :: rest) [] pos) env) Q E s :=
  wpAny_Call_ofName (nmF hc hm (callWith_F (first := []) F h he hplain) hk hx hd hn)
/-- a call of a function that a cell of the frame holds -/
theorem cC {T : List Addr} {s₀ : Shared} {L : Addr} {m : Str → Option Value} {nw : List (Addr × OS)} {M : Model} {env : Env} {x : Str} {np pos : Pos} {e : Expr} {rest : List Expr} {c : Addr} (f : Fm T s₀ L m nw s) (hc : env.cells.lookup x = some c) (hm : (c, OS.cell (some (.ref q))) ∈ nw) (F : FnAt q s.heap)
    (h : wpAny M A (spliced (backTo pos (starEach (e :: rest) env))) (fun vs s₁ => FnAt q s₁.heap ∧ wpAny M A (call (.ref q) vs) Q E s₁) E s)
    (hk : env.scope.kind = .function := by rfl) (hx : env.kindOf x = some .cell := by rfl) (hd : (x == ("__debug__" : Str)) = false := by decide)
    (he : starEach (e :: rest) env = (false, eval e env) :: starEach rest env := by rfl) (hplain : (backTo pos (starEach rest env)).any (·.1) = false := by rfl) :
    wpAny M A (eval (.Call (.Name x np) (e :: rest) [] pos) env) Q E s :=
  wpAny_Call_ofName (nmC f hc hm (callWith_F (first := []) F h he hplain) hk hx hd)
theorem fnAt_of {h : Heap} {q : Addr} {o : Obj} {fd : FuncData} (e : h.get? q = some o) (hd : o.data = .func fd) : FnAt q h := by
  obtain ⟨oc, od, dt, sl⟩ := o
  cases hd
  exact ⟨oc, od, _, sl, e⟩
end
end Mine

/-! Mr8 -/
namespace Mine

theorem Kp.keeps {T : List Addr} {s s' : Shared} (k : Kp T s s') (h : ∀ b ∈ T, At s.heap b .tab := by simp) : Keeps s s' := by
  obtain ⟨h', tk, rfl⟩ := k.same
  refine ⟨h', tk, rfl, fun b o e => k.keep b o e fun hb => ?_⟩
  obtain ⟨o', e', ok⟩ := h b hb
  rw [e] at e'; cases e'
  exact ok.ne
theorem ints_of {vs : List Value} {xs : List Int} (hl : vs.length = xs.length) (h : ∀ (j : Nat) (v : Value), vs[j]? = some v → ∃ z t, v = .int z t ∧ xs[j]? = some z) : IntsAre vs xs := by
  induction vs generalizing xs with
  | nil => cases xs with
    | nil => exact .nil
    | cons => simp at hl
  | cons v vs ih => cases xs with
    | nil => simp at hl
    | cons x xs =>
      obtain ⟨z, t, rfl, e⟩ := h 0 v rfl
      simp at e
      subst e
      exact .cons _ _ (ih (by simpa using hl) fun j v hj => h (j + 1) v hj)
def ipred (p : Int → Bool) : Value → Bool
  | .int i _ => p i
  | _ => false
def irel (F : Int → Value → Prop) : Value → Value → Prop
  | .int i _, y => F i y
  | _, _ => False
theorem paired_ints {F : Int → Value → Prop} {p : Int → Bool} {vs : List Value} {xs : List Int} (h : IntsAre vs xs) : ∀ {ys : List Value}, Paired (irel F) (vs.filter (ipred p)) ys → Paired F (xs.filter p) ys := by
  induction h with
  | nil => intro ys h; cases h; exact .nil
  | cons n t h ih =>
    intro ys hp
    rw [List.filter_cons] at hp ⊢
    by_cases e : p n = true
    · rw [if_pos e]
      rw [if_pos (show ipred p (.int n t) = true from e)] at hp
      cases hp with
      | cons a b => exact .cons a (ih b)
    · rw [if_neg e]
      rw [if_neg (show ¬ ipred p (.int n t) = true from e)] at hp
      exact ih hp

section
variable {prog : Program} {w : World} {A : Around} {E : Value → Shared → Prop} {T : List Addr} {s₀ s s₂ : Shared} {L : Addr} {m : Str → Option Value} {nw : List (Addr × OS)} {env : Env}
/-- the comprehension's own frame: over a base where all of the caller's stands -/
structure CompAt (s : Shared) (C : Addr) (m₃ : Str → Option Value) (s₃ : Shared) : Prop where
  ex : ∃ sB, Fm [] sB C m₃ [] s₃ ∧ ∀ b o, s.heap.get? b = some o → sB.heap.get? b = some o
/-- all is kept but the frame's namespace and one dull object -/
theorem Fm.renewBut {I : Addr} {sp : OS} {m' : Str → Option Value} (f : Fm T s₀ L m ((I, sp) :: nw) s) {h' : Heap} (tk : Tok) (n : h'.Ns L m') (k : ∀ b o, b ≠ L → b ≠ I → s.heap.get? b = some o → h'.get? b = some o) (hc : sp.isCode = false := by rfl) : Fm T s₀ L m' nw { s with heap := h', toks := tk } := by
  have hm := f.new (I, sp) List.mem_cons_self
  have hd : ∀ o, s.heap.get? I = some o → Dull o := fun o e => by
    obtain ⟨o', h1, h2⟩ := hm.1
    rw [h1] at e; cases e; exact h2.dull hc
  have hd' : ∀ o, s.heap.get? L = some o → Dull o := fun o e => by
    obtain ⟨o', es, ep, ho, hd, _⟩ := f.ns
    rw [ho] at e; cases e; exact dull_dict hd
  have tbk : ∀ {P q pos}, TbAt s.heap P q pos → TbAt h' P q pos := by
    rintro P q pos ⟨ps, e, r⟩
    have hP : P ≠ I := by rintro rfl; exact (hd _ e).ne_tab _ rfl
    have hP' : P ≠ L := by rintro rfl; exact (hd' _ e).ne_tab _ rfl
    refine ⟨ps, k _ _ hP' hP e, r.imp id ?_⟩
    rintro ⟨c', e', c, o, vs, t, e1, e2, e3, e4⟩
    refine ⟨c', e', c, o, vs, t, e1, k _ _ ?_ ?_ e2, e3, e4⟩
    · rintro rfl
      exact ((hd' _ e2) vs e3).2 _ _ e4
    · rintro rfl
      exact ((hd _ e2) vs e3).2 _ _ e4
  have nd := f.nd
  rw [List.map_cons, List.nodup_cons] at nd
  refine ⟨by obtain ⟨h, t, rfl⟩ := f.same; exact ⟨h', tk, rfl⟩, n, fun b o e x => ?_, f.above, fun p hp => ?_, nd.2, ⟨tbk f.tb.i, tbk f.tb.d, tbk f.tb.s⟩, f.wd⟩
  · refine k b o (Nat.ne_of_lt (Nat.lt_of_lt_of_le (Heap.lt_size e) f.above)) ?_ (f.keep b o e x)
    rintro rfl
    rw [hm.2.2 hc] at e
    cases e
  · have hx := f.new p (List.mem_cons_of_mem _ hp)
    obtain ⟨o, h1, h2⟩ := hx.1
    exact ⟨⟨o, k _ _ hx.2.1 (fun e => nd.1 (e ▸ List.mem_map_of_mem (f := (·.1)) hp)) h1, h2⟩, hx.2⟩
/-- what a comprehension over ints leaves -/
theorem compN {D I : Addr} {sp : OS} (f : Fm T s₀ L m ((I, sp) :: nw) s₂) (hT : ∀ b ∈ T, b = 44 ∨ b = 51 ∨ b = 98) (hD : s₂.heap.get? D = none) : D ≠ L ∧ s₀.heap.get? D = none ∧ ∀ p ∈ nw, p.1 ≠ D := by
  refine ⟨?_, ?_, ?_⟩
  · rintro rfl
    obtain ⟨o, _, _, ho, _⟩ := f.ns
    rw [hD] at ho; cases ho
  · cases e : s₀.heap.get? D with
    | none => rfl
    | some o =>
      exfalso
      by_cases hm : D ∈ T
      · rcases hT D hm with rfl | rfl | rfl
        · obtain ⟨ps, e, _⟩ := f.tb.i; rw [hD] at e; cases e
        · obtain ⟨ps, e, _⟩ := f.tb.d; rw [hD] at e; cases e
        · obtain ⟨ps, e, _⟩ := f.tb.s; rw [hD] at e; cases e
      · have := f.keep D o e fun h => absurd h hm
        rw [hD] at this; cases this
  · intro p hp e
    obtain ⟨o, ho, _⟩ := (f.new p (List.mem_cons_of_mem _ hp)).1
    rw [e, hD] at ho; cases ho
theorem compD {D I : Addr} {h' : Heap} {tk : Tok} {ys : Array Value} {oI : Obj} (f : Fm T s₀ L m ((I, .raw oI) :: nw) s₂) (hT : ∀ b ∈ T, b = 44 ∨ b = 51 ∨ b = 98) (hD : s₂.heap.get? D = none) (hp : h'.PlainList D ys)
    (hk : ∀ b o, b ∉ [I] → s₂.heap.get? b = some o → h'.get? b = some o) : Fm T s₀ L m ((D, .vals ys.toList) :: nw) { s₂ with heap := h', toks := tk } := by
  have g := f.but tk (h' := h') fun b o hb e => hk b o (by simpa using hb) e
  obtain ⟨h1, h2, h3⟩ := compN f hT hD
  exact g.add (At.of_plain (by simpa using hp)) h1 h2 h3
theorem compAt_of {C I : Addr} {s₃ : Shared} {m₃ : Str → Option Value} (f : Fm T s₀ L m nw s) (hI : ∀ b o, s.heap.get? b = some o → b ≠ I ∧ s₂.heap.get? b = some o) (hsz : s.heap.objs.size ≤ s₂.heap.objs.size) (hC : s₂.heap.objs.size ≤ C) (hn : s₃.heap.Ns C m₃)
    (hk : ∀ b o, b ∉ [I] → s₂.heap.get? b = some o → s₃.heap.get? b = some o) : CompAt s C m₃ s₃ := by
  have hks : ∀ b o, s.heap.get? b = some o → s₃.heap.get? b = some o := fun b o e => hk b o (by simpa using (hI b o e).1) (hI b o e).2
  exact ⟨{ s₃ with heap := s.heap }, ⟨⟨s₃.heap, s₃.toks, rfl⟩, hn, .of_keeps hks, Nat.le_trans hsz hC, fun p hp => (by cases hp), List.nodup_nil, f.tb.keeps hks, f.world⟩, fun b o e => e⟩
theorem compQ {elt : Expr} {x : Str} {ifs : List Expr} {scope : Scope} {cl : List (Str × Addr)} {I : Addr} {P : Nat → Value → Prop} {xs : List Int} (p : Int → Bool) (F : Int → Value → Prop) (f : Fm T s₀ L m nw s) (hI : ∀ b o, s.heap.get? b = some o → b ≠ I ∧ s₂.heap.get? b = some o)
    (hsz : s.heap.objs.size ≤ s₂.heap.objs.size) (hP : ∀ (i : Nat) v, P i v → ∃ z t, v = .int z t ∧ xs[i]? = some z)
    (htest : ∀ C (i : Nat) v t s₃ m₃ E', xs[i]? = some v → CompAt s C m₃ s₃ → m₃ x = some (.int v t) →
      wpAny (model prog w) A (forIn ifs true fun c r => if r = true then do let ok ← isTrue c (compEnvC scope cl C env) (eval c (compEnvC scope cl C env)); pure (ForInStep.yield ok) else pure (ForInStep.yield r)) (fun ok s₄ => ok = p v ∧ Keeps s₃ s₄) E' s₃)
    (helt : ∀ C (i : Nat) v t s₃ m₃ E', xs[i]? = some v → p v = true → CompAt s C m₃ s₃ → m₃ x = some (.int v t) →
      wpAny (model prog w) A (eval elt (compEnvC scope cl C env)) (fun y s₄ => F v y ∧ Keeps s₃ s₄) E' s₃) :
    QuietOnC prog w A env scope cl x ifs elt [I] P (ipred p) (irel F) s₂ := by
  refine ⟨?_, ?_⟩
  · intro C i v s₃ m₃ E' hC hv hn hm hk _
    obtain ⟨z, t, rfl, hz⟩ := hP i v hv
    exact htest C i z t s₃ m₃ E' hz (compAt_of f hI hsz hC hn hk) hm
  · intro C i v s₃ m₃ E' hC hv hp hn hm hk _
    obtain ⟨z, t, rfl, hz⟩ := hP i v hv
    exact helt C i z t s₃ m₃ E' hz hp (compAt_of f hI hsz hC hn hk) hm
/-- a comprehension over a list of ints, behind its source -/
theorem compI {elt : Expr} {x : Str} {ifs : List Expr} {scope : Scope} {cl : List (Str × Addr)} {Q : Value → Shared → Prop} {a : Addr} {xs : List Int} (p : Int → Bool) (F : Int → Value → Prop) (hh : A.handled = none) (f : Fm T s₀ L m nw s) (hl : Il s.heap a xs) (hsz : xs.length ≤ 1000000)
    (htest : ∀ C (i : Nat) v t s₃ m₃ E', xs[i]? = some v → CompAt s C m₃ s₃ → m₃ x = some (.int v t) →
      wpAny (model prog w) A (forIn ifs true fun c r => if r = true then do let ok ← isTrue c (compEnvC scope cl C env) (eval c (compEnvC scope cl C env)); pure (ForInStep.yield ok) else pure (ForInStep.yield r)) (fun ok s₄ => ok = p v ∧ Keeps s₃ s₄) E' s₃)
    (helt : ∀ C (i : Nat) v t s₃ m₃ E', xs[i]? = some v → p v = true → CompAt s C m₃ s₃ → m₃ x = some (.int v t) →
      wpAny (model prog w) A (eval elt (compEnvC scope cl C env)) (fun y s₄ => F v y ∧ Keeps s₃ s₄) E' s₃)
    (hQ : ∀ D ys s', Fm T s₀ L m ((D, .vals ys) :: nw) s' → Paired F (xs.filter p) ys → Q (.ref D) s') (hT : ∀ b ∈ T, b = 44 ∨ b = 51 ∨ b = 98 := by simp) :
    wpAny (model prog w) A (pyIter (.ref a)) (fun it s₂ => ∃ I fp wr n P St, it = .ref I ∧ Walks prog w A I fp wr n P St ∧ n ≤ sizeLine ∧ St 0 s₂.heap ∧ (∀ b ∈ fp, b < s₂.heap.objs.size) ∧
      QuietOnC prog w A env scope cl x ifs elt wr P (ipred p) (irel F) s₂ ∧
      (∀ D h' tk ys (vs : List Value), s₂.heap.get? D = none → h'.IsList D ys → h'.PlainList D ys → vs.length = n → (∀ (j : Nat) v, vs[j]? = some v → P j v) → Paired (irel F) (vs.filter (ipred p)) ys.toList →
        (∀ b o, b ∉ wr → s₂.heap.get? b = some o → h'.get? b = some o) → Q (.ref D) { s₂ with heap := h', toks := tk })) E s := by
  obtain ⟨vs, hv, hi⟩ := hl
  have hvl := ints_length hi
  obtain ⟨oa, hoa, _⟩ := id hv
  have hne : a ≠ s.heap.objs.size := Nat.ne_of_lt (Heap.lt_size hoa)
  refine wpAny_pyIter_list hv ?_
  have hd : Dull { cls := .type "list_iterator", data := .fields #[Value.ref a, .int 0 0] } := dull_iter (fun q t e => by simp at e)
  have f₂ := f.alloc (o := { cls := .type "list_iterator", data := .fields #[.ref a, .int 0 0] }) (sp := .raw _) ⟨rfl, hd⟩ rfl
  have hP : ∀ (i : Nat) v, vs.toArray[i]? = some v → ∃ z t, v = .int z t ∧ xs[i]? = some z := fun i v e => ints_get' hi (by simpa using e)
  refine ⟨s.heap.objs.size, [s.heap.objs.size, a], [s.heap.objs.size], vs.toArray.size, fun i v => vs.toArray[i]? = some v, _, rfl, Walks.list hh _ a hne vs.toArray, by rw [List.size_toArray, sizeLine_eq]; omega, ⟨⟨_, Heap.get?_push_size _ rfl, rfl, rfl⟩, hv.push _⟩, ?_, ?_, ?_⟩
  · intro b hb
    show b < (s.heap.push _).objs.size
    rw [Heap.size_push]
    rcases List.mem_cons.mp hb with rfl | hb
    · exact Nat.lt_succ_self _
    · rw [List.mem_singleton.mp hb]; exact Nat.lt_succ_of_lt (Heap.lt_size hoa)
  · exact compQ (s₂ := { s with heap := s.heap.push _ }) p F f (fun b o e => ⟨Nat.ne_of_lt (Heap.lt_size e), Heap.get?_push_of_some _ e⟩) (by simp) hP htest helt
  · intro D h' tk ys ws hD hlD hpD hwl hP' hF hk
    refine hQ D ys.toList _ (compD f₂ hT hD hpD hk) (paired_ints (ints_of (by rw [hwl, List.size_toArray, hvl]) fun j v hj => hP j v (hP' j v hj)) hF)
def rng (n : Nat) : List Int := (List.range n).map Int.ofNat
theorem Walks.bound {I : Addr} {fp wr : List Addr} {n : Nat} {P : Nat → Value → Prop} {St : Nat → Heap → Prop} (W : Walks prog w A I fp wr n P St) : Walks prog w A I fp wr n (fun i v => i < n ∧ P i v) St :=
  { W with item := fun i s Q E hi st hQ => W.item i s Q E hi st fun v h' tk hp => hQ v h' tk ⟨hi, hp⟩ }
/-- an assigned comprehension over `range(n)`, behind its source -/
theorem compR {elt : Expr} {x y : Str} {ifs : List Expr} {scope : Scope} {cl : List (Str × Addr)} {Q : Flow → Shared → Prop} {n : Nat} {t : Tok} (p : Int → Bool) (F : Int → Value → Prop) (hh : A.handled = none) (f : Fm T s₀ L m nw s) (hn : n ≤ 1000000)
    (htest : ∀ C (i : Nat) v t s₃ m₃ E', (rng n)[i]? = some v → CompAt s C m₃ s₃ → m₃ x = some (.int v t) →
      wpAny (model prog w) A (forIn ifs true fun c r => if r = true then do let ok ← isTrue c (compEnvC scope cl C env) (eval c (compEnvC scope cl C env)); pure (ForInStep.yield ok) else pure (ForInStep.yield r)) (fun ok s₄ => ok = p v ∧ Keeps s₃ s₄) E' s₃)
    (helt : ∀ C (i : Nat) v t s₃ m₃ E', (rng n)[i]? = some v → p v = true → CompAt s C m₃ s₃ → m₃ x = some (.int v t) →
      wpAny (model prog w) A (eval elt (compEnvC scope cl C env)) (fun y s₄ => F v y ∧ Keeps s₃ s₄) E' s₃)
    (hQ : ∀ D ys s', Fm T s₀ L (upd m y (.ref D)) ((D, .vals ys) :: nw) s' → Paired F ((rng n).filter p) ys → Q .next s') (hL : env.locals = L := by rfl) (hT : ∀ b ∈ T, b = 44 ∨ b = 51 ∨ b = 98 := by simp) :
    wpAny (model prog w) A (call (.type "range") [.int n t]) (fun xv s₁ => wpAny (model prog w) A (pyIter xv) (fun it s₂ => ∃ I fp wr n P St m, it = .ref I ∧ Walks prog w A I fp wr n P St ∧ n ≤ sizeLine ∧ St 0 s₂.heap ∧ (∀ b ∈ fp, b < s₂.heap.objs.size) ∧
      env.locals ∉ wr ∧ s₂.heap.Ns env.locals m ∧ QuietOnC prog w A env scope cl x ifs elt wr P (ipred p) (irel F) s₂ ∧
      (∀ D h' tk ys (vs : List Value), s₂.heap.get? D = none → h'.IsList D ys → h'.PlainList D ys → vs.length = n → (∀ (j : Nat) v, vs[j]? = some v → P j v) → Paired (irel F) (vs.filter (ipred p)) ys.toList →
        h'.Ns env.locals (fun z => if z = y then some (.ref D) else m z) → (∀ b o, b ≠ env.locals → b ∉ wr → s₂.heap.get? b = some o → h'.get? b = some o) → Q .next { s₂ with heap := h', toks := tk })) E s₁) E s := by
  subst hL
  refine call_range_1 ?_
  refine wpAny_pyIter_range (IsRange.new ..) (small_one (by omega) (by omega) (by omega) (by omega)) ?_
  have f₁ := (f.push { cls := .type "range", data := .fields #[.int 0 s.toks, .int n t, .int 1 (s.toks + 1)] }).tok (s.toks + 1 + 1)
  have hd : ∀ a b c : Int, Dull { cls := .type "range_iterator", data := .fields #[rawInt a, rawInt b, rawInt c] } := fun a b c => dull_iter (fun q t e => by simp [rawInt] at e)
  have f₂ := f₁.alloc (o := { cls := .type "range_iterator", data := .fields #[rawInt 0, rawInt (Builtin.Range.rangeSize 0 n 1), rawInt 1] }) (sp := .raw _) ⟨rfl, hd _ _ _⟩ rfl
  have e0 : Builtin.Range.rangeSize 0 n 1 = (n : Int) := by rw [rangeSize_one]; split <;> omega
  have e1 : (0 : Int) + ((0 : Nat) : Int) * 1 = 0 := by omega
  have e2 : (n : Int) - ((0 : Nat) : Int) = Builtin.Range.rangeSize 0 n 1 := by omega
  have hPn : ∀ (i : Nat) v, (i < n ∧ ∃ t, v = Value.int (0 + (i : Int) * 1) t) → ∃ z t, v = .int z t ∧ (rng n)[i]? = some z := by
    rintro i v ⟨hi, t, rfl⟩
    refine ⟨_, _, rfl, ?_⟩
    rw [rng, List.getElem?_map, List.getElem?_range hi]
    simp
  have hks : ∀ b o, s.heap.get? b = some o → b ≠ s.heap.objs.size + 1 ∧ ((s.heap.push { cls := .type "range", data := .fields #[.int 0 s.toks, .int n t, .int 1 (s.toks + 1)] }).push { cls := .type "range_iterator", data := .fields #[rawInt 0, rawInt (Builtin.Range.rangeSize 0 n 1), rawInt 1] }).get? b = some o :=
    fun b o e => ⟨Nat.ne_of_lt (Nat.lt_succ_of_lt (Heap.lt_size e)), Heap.get?_push_of_some _ (Heap.get?_push_of_some _ e)⟩
  have eI : (s.heap.push { cls := .type "range", data := .fields #[.int 0 s.toks, .int n t, .int 1 (s.toks + 1)] }).objs.size = s.heap.objs.size + 1 := Heap.size_push ..
  refine ⟨_, [_], [_], n, _, _, m, rfl, (Walks.range hh _ 0 1 n).bound, by rw [sizeLine_eq]; omega, ?_, ?_, ?_, f₂.ns, compQ p F f (fun b o e => ⟨by rw [eI]; exact (hks b o e).1, (hks b o e).2⟩) (by simp; omega) hPn htest helt, ?_⟩
  · show IsRangeIter _ _ _ _ _
    rw [e1, e2]
    exact Heap.get?_push_size _ rfl
  · intro b hb
    rw [List.mem_singleton.mp hb]
    show _ < (Heap.push _ _).objs.size
    simp only [Heap.size_push]
    exact Nat.lt_succ_self _
  · intro hb
    have h1 := f₁.ns.lt
    rw [List.mem_singleton.mp hb] at h1
    exact Nat.lt_irrefl _ h1
  · intro D h' tk ys ws hD hlD hpD hwl hP' hF hns hk
    have fD := f₂.renewBut tk hns fun b o hb hb' e => hk b o hb (by rw [List.mem_singleton]; exact hb') e
    obtain ⟨h1, h2, h3⟩ := compN f₂ hT hD
    exact hQ D ys.toList _ (fD.add (At.of_plain (by simpa using hpD)) h1 h2 h3) (paired_ints (ints_of (by rw [hwl]; simp [rng]) fun j v hj => hPn j v (hP' j v hj)) hF)
end
end Mine

/-! Mr9 -/
namespace Mine

/-! in a comprehension's turn: all is kept -/
structure Cq (sc s₃ : Shared) (C : Addr) (m₃ : Str → Option Value) (s : Shared) : Prop where
  k : Keeps s₃ s
  ns : s.heap.Ns C m₃
  up : ∀ b o, sc.heap.get? b = some o → s.heap.get? b = some o
  wd : Wd s.heap
  tb : Tb s.heap
theorem CompAt.cq {s s₃ : Shared} {C : Addr} {m₃ : Str → Option Value} (x : CompAt s C m₃ s₃) : Cq s s₃ C m₃ s₃ := by
  obtain ⟨sB, f, hk⟩ := x.ex
  exact ⟨⟨_, _, rfl, fun b o e => e⟩, f.ns, fun b o e => f.keep b o (hk b o e) (by simp), f.world, f.tb⟩
theorem Cq.tok {sc s₃ s : Shared} {C : Addr} {m₃ : Str → Option Value} (f : Cq sc s₃ C m₃ s) (tk : Tok) : Cq sc s₃ C m₃ { s with toks := tk } := by
  refine ⟨?_, f.ns, f.up, f.wd, f.tb⟩
  obtain ⟨h', t, rfl, hk⟩ := f.k
  exact ⟨h', tk, rfl, hk⟩
theorem keeps_trans {s s' s'' : Shared} (x : Keeps s s') (y : Keeps s' s'') : Keeps s s'' := by
  obtain ⟨h1, t1, rfl, k1⟩ := x
  obtain ⟨h2, t2, rfl, k2⟩ := y
  exact ⟨h2, t2, rfl, fun b o e => k2 b o (k1 b o e)⟩
theorem Cq.at {sc s₃ s : Shared} {C : Addr} {m₃ : Str → Option Value} (f : Cq sc s₃ C m₃ s) {a : Addr} {sp : OS} (h : At sc.heap a sp) : At s.heap a sp := h.keeps f.up

section
variable {prog : Program} {w : World} {A : Around} {E : Value → Shared → Prop} {sc s₃ s : Shared} {C : Addr} {m : Str → Option Value} {env : Env} {x : Str} {pos np : Pos} {v : Value} {Q : Value → Shared → Prop} {a b : Int} {t u : Tok}
theorem qL (f : Cq sc s₃ C m s) (hv : m x = some v) (h : Q v s) (hL : env.locals = C := by rfl) (hk : env.scope.kind = .function := by rfl)
    (hx : env.kindOf x = some .local := by rfl) (hd : (x == ("__debug__" : Str)) = false := by decide) : wpAny (model prog w) A (eval (.Name x pos) env) Q E s :=
  wpAny_Name (wpAny_loadName_local hk hx (hL ▸ f.ns) hv h) hd
theorem qC {c : Addr} (f : Cq sc s₃ C m s) (hc : env.cells.lookup x = some c) (hm : At sc.heap c (.cell (some v))) (h : Q v s) (hk : env.scope.kind = .function := by rfl)
    (hx : env.kindOf x = some .cell := by rfl) (hd : (x == ("__debug__" : Str)) = false := by decide) : wpAny (model prog w) A (eval (.Name x pos) env) Q E s :=
  wpAny_Name (wpAny_loadName_cell hk hx hc (f.at hm) h) hd
theorem qI {i : Int} {k : Nat} (f : Cq sc s₃ C m s) (h : ∀ t s', Cq sc s₃ C m s' → Q (.int i t) s') : wpAny (model prog w) A (eval (.Constant (.int i) k pos) env) Q E s :=
  wpAny_Constant_int (h _ _ (f.tok _))
theorem qAdd (f : Cq sc s₃ C m s) (h : ∀ t s', Cq sc s₃ C m s' → Q (.int (a + b) t) s') : wpAny (model prog w) A (binaryOp .Add (.int a t) (.int b u)) Q E s := add_int (h _ _ (f.tok _))
theorem qSub (f : Cq sc s₃ C m s) (h : ∀ t s', Cq sc s₃ C m s' → Q (.int (a - b) t) s') : wpAny (model prog w) A (binaryOp .Sub (.int a t) (.int b u)) Q E s := sub_int (h _ _ (f.tok _))
theorem qMul (f : Cq sc s₃ C m s) (hm : IntMulOk a b) (h : ∀ t s', Cq sc s₃ C m s' → Q (.int (a * b) t) s') : wpAny (model prog w) A (binaryOp .Mult (.int a t) (.int b u)) Q E s := mul_int (h _ _ (f.tok _)) hm
theorem qDiv (f : Cq sc s₃ C m s) (hb : b ≠ 0) (hs : b.natAbs < 1073741824) (h : ∀ t s', Cq sc s₃ C m s' → Q (.int (a.fdiv b) t) s') : wpAny (model prog w) A (binaryOp .FloorDiv (.int a t) (.int b u)) Q E s :=
  floordiv_int hb (h _ _ (f.tok _)) (.inl (PyProof.noPylong_small hs))
theorem qMod (f : Cq sc s₃ C m s) (hb : b ≠ 0) (h : ∀ t s', Cq sc s₃ C m s' → Q (.int (a.fmod b) t) s') : wpAny (model prog w) A (binaryOp .Mod (.int a t) (.int b u)) Q E s := mod_int' hb (h _ _ (f.tok _))
theorem qPow (f : Cq sc s₃ C m s) (hb : 0 ≤ b) (hs : (Builtin.Int.intBits a : Int) * b ≤ 2 ^ 27) (h : ∀ t s', Cq sc s₃ C m s' → Q (.int (a ^ b.toNat) t) s') : wpAny (model prog w) A (binaryOp .Pow (.int a t) (.int b u)) Q E s :=
  pow_int hb hs (h _ _ (f.tok _))
theorem qS {l : List Nat} {i c : Nat} (f : Cq sc s₃ C m s) (hc : l[i]? = some c) (hl : l.length ≤ 1000000) (h : ∀ t s', Cq sc s₃ C m s' → Q (.str (S [c]) t) s') : wpAny (model prog w) A (getItem (.str (S l) t) (.int i u)) Q E s := by
  have hlt : i < l.length := (List.getElem?_eq_some_iff.mp hc).1
  refine P.getItem_str (c := c) (by simp; omega) ?_ (h _ _ (f.tok _))
  rw [StrLaws.seqIndex_nonneg (by omega) (by rw [S_len]; omega)]
  show (S l).cps[(i : Int).toNat]? = some c
  rw [Int.toNat_natCast, ← Array.getElem?_toList]
  exact hc
/-- no tests -/
theorem qNone {Q : Bool → Shared → Prop} (h : Q true s) {g : Expr → Bool → Sem (ForInStep Bool)} : wpAny (model prog w) A (forIn ([] : List Expr) true g) Q E s := wpAny_pure h
end

section
variable {prog : Program} {w : World} {A : Around} {E : Value → Shared → Prop} {s : Shared} {env : Env}
def TestsOk (prog : Program) (w : World) (A : Around) (env : Env) (scope : Scope) (cl : List (Str × Addr)) (x : Str) (ifs : List Expr) (p : Int → Bool) (xs : List Int) (s : Shared) : Prop :=
  ∀ C (i : Nat) v t s₃ m₃ E', xs[i]? = some v → CompAt s C m₃ s₃ → m₃ x = some (.int v t) →
      wpAny (model prog w) A (forIn ifs true fun c r => if r = true then do let ok ← isTrue c (compEnvC scope cl C env) (eval c (compEnvC scope cl C env)); pure (ForInStep.yield ok) else pure (ForInStep.yield r)) (fun ok s₄ => ok = p v ∧ Keeps s₃ s₄) E' s₃
def EltOk (prog : Program) (w : World) (A : Around) (env : Env) (scope : Scope) (cl : List (Str × Addr)) (x : Str) (elt : Expr) (p : Int → Bool) (F : Int → Value → Prop) (xs : List Int) (s : Shared) : Prop :=
  ∀ C (i : Nat) v t s₃ m₃ E', xs[i]? = some v → p v = true → CompAt s C m₃ s₃ → m₃ x = some (.int v t) →
      wpAny (model prog w) A (eval elt (compEnvC scope cl C env)) (fun y s₄ => F v y ∧ Keeps s₃ s₄) E' s₃
/-- a comprehension over a list of ints -/
theorem lcI {elt iter : Expr} {x : Str} {px : Pos} {ifs : List Expr} {scope : Scope} {cl : List (Str × Addr)} {pos : Pos} {Q : Value → Shared → Prop} (p : Int → Bool) (F : Int → Value → Prop) (hh : A.handled = none)
    (hclos : closureFor scope env = pure cl) (hcell : ∀ y ∈ scope.names, y.2 ≠ .cell) (hkind : scope.kind = .function)
    (hnames : ∀ y ∈ scope.names, y.2 = .local → scope.names.lookup y.1 = some .local) (hx : scope.names.lookup x = some .local)
    (h : wpAny (model prog w) A (eval iter env) (fun xv s₁ => ∃ T s₀ L m nw a xs, xv = .ref a ∧ Fm T s₀ L m nw s₁ ∧ Il s₁.heap a xs ∧ xs.length ≤ 1000000 ∧ (∀ b ∈ T, b = 44 ∨ b = 51 ∨ b = 98) ∧
      TestsOk prog w A env scope cl x ifs p xs s₁ ∧ EltOk prog w A env scope cl x elt p F xs s₁ ∧
      (∀ D ys s', Fm T s₀ L m ((D, .vals ys) :: nw) s' → Paired F (xs.filter p) ys → Q (.ref D) s')) E s)
    (hs : ∀ x, foldedSetIterable iter env x = pure x := by intro _; rfl) :
    wpAny (model prog w) A (eval (.ListComp elt [⟨.Name x px, iter, ifs, 0⟩] scope pos) env) Q E s := by
  refine wpAny_ListComp_free (ipred p) (irel F) hclos hcell hkind hnames hx (wpAny_mono h (fun xv s₁ h₁ => ?_) fun _ _ e => e) hs
  obtain ⟨T, s₀, L, m, nw, a, xs, rfl, f, hl, hsz, hT, h1, h2, h3⟩ := h₁
  exact compI (Q := Q) p F hh f hl hsz h1 h2 h3 hT
/-- an assigned comprehension over range(n) -/
theorem lcR {elt iter : Expr} {x y : Str} {px py : Pos} {ifs : List Expr} {scope : Scope} {cl : List (Str × Addr)} {pos spos : Pos} {Q : Flow → Shared → Prop} (p : Int → Bool) (F : Int → Value → Prop) (hh : A.handled = none)
    (hsw : swapsWith (.ListComp elt [⟨.Name x px, iter, ifs, 0⟩] scope pos) (some (.Name y py)) spos.line env = pure true)
    (hclos : closureFor scope env = pure cl) (hcell : ∀ z ∈ scope.names, z.2 ≠ .cell) (hkind : scope.kind = .function)
    (hnames : ∀ z ∈ scope.names, z.2 = .local → scope.names.lookup z.1 = some .local) (hx : scope.names.lookup x = some .local)
    (hy : env.kindOf y = some .local) (hp : (env.scope.kind == .class || (env.scope.kind == .module && env.locals != env.globals)) = false)
    (n : Nat) (hn : n ≤ 1000000)
    (h : ∀ R : Value → Shared → Prop, (∀ t s₁, (∃ T s₀ m nw, Fm T s₀ env.locals m nw s₁ ∧ (∀ b ∈ T, b = 44 ∨ b = 51 ∨ b = 98) ∧
      TestsOk prog w A env scope cl x ifs p (rng n) s₁ ∧ EltOk prog w A env scope cl x elt p F (rng n) s₁ ∧
      (∀ D ys s', Fm T s₀ env.locals (upd m y (.ref D)) ((D, .vals ys) :: nw) s' → Paired F ((rng n).filter p) ys → Q .next s')) → wpAny (model prog w) A (call (.type "range") [.int n t]) R E s₁) → wpAny (model prog w) A (eval iter env) R E s)
    (hs : ∀ x, foldedSetIterable iter env x = pure x := by intro _; rfl) :
    wpAny (model prog w) A (exec (.Assign [.Name y py] (.ListComp elt [⟨.Name x px, iter, ifs, 0⟩] scope pos) spos) env) Q E s := by
  refine wpAny_Assign_ListComp_free (ipred p) (irel F) hsw hclos hcell hkind hnames hx hy hp (h _ ?_) hs
  rintro t s₁ ⟨T, s₀, m, nw, f, hT, h1, h2, h3⟩
  exact compR (Q := Q) p F hh f hn h1 h2 h3 rfl hT
end
end Mine

/-! Mr10 -/
namespace Mine

theorem ints_exist {P : Int → Prop} : ∀ {vs : List Value}, (∀ v ∈ vs, ∃ z t, v = Value.int z t ∧ P z) → ∃ xs, IntsAre vs xs ∧ ∀ x ∈ xs, P x
  | [], _ => ⟨[], .nil, fun _ h => by cases h⟩
  | v :: vs, h => by
    obtain ⟨z, t, rfl, hz⟩ := h v List.mem_cons_self
    obtain ⟨xs, h1, h2⟩ := ints_exist (vs := vs) fun u hu => h u (List.mem_cons_of_mem _ hu)
    refine ⟨z :: xs, .cons _ _ h1, fun x hx => ?_⟩
    rcases List.mem_cons.mp hx with rfl | hx
    · exact hz
    · exact h2 x hx
theorem paired_mem {F : Int → Value → Prop} {xs : List Int} {ys : List Value} (h : Paired F xs ys) : ∀ y ∈ ys, ∃ x ∈ xs, F x y := by
  induction h with
  | nil => intro y hy; cases hy
  | cons a b ih =>
    intro y hy
    rcases List.mem_cons.mp hy with rfl | hy
    · exact ⟨_, List.mem_cons_self, a⟩
    · obtain ⟨x, hx, hF⟩ := ih y hy; exact ⟨x, List.mem_cons_of_mem _ hx, hF⟩
theorem paired_length {F : Int → Value → Prop} {xs : List Int} {ys : List Value} (h : Paired F xs ys) : ys.length = xs.length := by
  induction h with
  | nil => rfl
  | cons a b ih => simp [ih]
theorem paired_same {xs : List Int} {ys : List Value} (h : Paired (fun v y => ∃ t, y = Value.int v t) xs ys) : IntsAre ys xs := by
  induction h with
  | nil => exact .nil
  | cons a b ih => obtain ⟨t, rfl⟩ := a; exact .cons _ _ ih

section
variable {prog : Program} {w : World} {A : Around} {E : Value → Shared → Prop} {T : List Addr} {s₀ s s' : Shared} {L : Addr} {m : Str → Option Value} {nw : List (Addr × OS)} {Q : Value → Shared → Prop} {env : Env} {x : Str} {np pos : Pos} {e : Expr} {rest : List Expr}
theorem oSum {l : Addr} {xs : List Int} (hh : A.handled = none) (f : Fm T s₀ L m nw s) (hl : Il s.heap l xs) (h : ∀ (z : Int) t s', Fm T s₀ L m nw s' → Q (.int z t) s') : wpAny (model prog w) A (call (.builtin "sum") [.ref l]) Q E s := by
  obtain ⟨vs, h1, h2⟩ := hl
  obtain ⟨ys, e⟩ := AllInts.items h2.allInts
  rw [e] at h1
  exact sum_intListG hh h1 fun h' tk t' hk => h _ _ _ (f.kept tk hk)
theorem mul_two (l : List Nat) : Txt.mul (S l) 2 = S (l ++ l) := by
  have : Txt.mul (S l) 2 = ⟨(#[] ++ (S l).cps) ++ (S l).cps⟩ := by
    unfold Txt.mul
    rw [if_neg (by decide)]
    first
      | rfl
      | (split
         · rename_i h; simp at h
           have : l = [] := by simpa [S_len] using h
           subst this; rfl
         · rfl)
  rw [this, Array.empty_append]
  refine Str.ext' ?_
  show l.toArray ++ l.toArray = (l ++ l).toArray
  simp
theorem oMul2 {l : List Nat} {t u : Tok} (f : Fm T s₀ L m nw s) (hl : l.length ≤ 1000) (h : ∀ t s', Fm T s₀ L m nw s' → Q (.str (S (l ++ l)) t) s') : wpAny (model prog w) A (binaryOp .Mult (.str (S l) t) (.int 2 u)) Q E s := by
  refine SB.mul ⟨by decide, fun _ _ => ?_, fun _ _ => ?_⟩ fun t' k => ?_
  · rw [S_len]; omega
  · rw [S_len]
    have : l.length * (2 : Int).toNat ≤ 2000 := by show l.length * 2 ≤ 2000; omega
    generalize l.length * (2 : Int).toNat = z at this
    show decide (z > sizeLine) = false
    rw [decide_eq_false_iff_not, sizeLine_eq]
    omega
  · rw [mul_two]; exact h _ _ (f.tok k)
theorem oRange2 {a b : Int} {t u : Tok} (f : Fm T s₀ L m nw s) (h : ∀ r v s', IsRange s'.heap r a b 1 t u v → Fm T s₀ L m nw s' → Q (.ref r) s') : wpAny (model prog w) A (call (.type "range") [.int a t, .int b u]) Q E s :=
  call_range_2 (h _ _ _ (IsRange.new ..) ((f.push _).tok _))
theorem oListR {r : Addr} {b : Int} {t u v : Tok} (hh : A.handled = none) (f : Fm T s₀ L m nw s) (hr : IsRange s.heap r 1 b 1 t u v) (h1 : 1 ≤ b) (h2 : b ≤ 1000)
    (h : ∀ l ys s', s.heap.objs.size ≤ l → Fm T s₀ L m ((l, .intl ys) :: nw) s' → (∀ y ∈ ys, 1 ≤ y ∧ y < b) → ys.length = (b - 1).toNat → Q (.ref l) s') : wpAny (model prog w) A (call (.type "list") [.ref r]) Q E s := by
  have hn : Builtin.Range.rangeSize 1 b 1 = (((b - 1).toNat : Nat) : Int) := by rw [rangeSize_one]; split <;> omega
  refine call_list_range hh hr (small_one (by omega) (by omega) (by omega) (by omega)) hn (by omega) fun h' tk acc' c' hk hS' hacc => ?_
  obtain ⟨ys, hy1, hy2⟩ := ints_exist (P := fun z => 1 ≤ z ∧ z < b) (vs := acc'.toList) (by
    intro v hv
    obtain ⟨j, hj⟩ := List.getElem?_of_mem hv
    have hj' : acc'[j]? = some v := by simpa using hj
    obtain ⟨t, rfl⟩ := hacc.2 j v hj'
    have hlt : j < (b - 1).toNat := by have := (Array.getElem?_eq_some_iff.mp hj').1; rw [hacc.1] at this; exact this
    exact ⟨_, _, rfl, by omega, by omega⟩)
  have f₁ := f.kept tk hk
  obtain ⟨a1, a2, a3⟩ := f.fits (Nat.le_refl _)
  refine h _ ys _ (Nat.le_refl _) (f₁.add (sp := .intl ys) ⟨_, hS', c', acc'.toList, by simp, hy1⟩ a1 a2 a3) hy2 ?_
  rw [← ints_length hy1, Array.length_toList, hacc.1]
/-- a call with a starred argument -/
theorem cGs {q : Addr} (f : Fm T s₀ L m nw s) (hv : globs.lookup x = some (.ref q))
    (h : wpAny (model prog w) A (spliced (backTo pos (starEach (e :: rest) env))) (fun vs s₁ => FnAt q s₁.heap ∧ wpAny (model prog w) A (call (.ref q) vs) Q E s₁) E s)
    (hg : env.globals = mainGlobals := by rfl) (hk : env.scope.kind = .function := by rfl) (hx : env.kindOf x = some .globalImplicit := by rfl) (hd : (x == ("__debug__" : Str)) = false := by decide)
    (he : starEach (e :: rest) env = (false, eval e env) :: starEach rest env := by rfl) (hst : (backTo pos (starEach rest env)).any (·.1) = true := by rfl) :
    wpAny (model prog w) A (eval (.Call (.Name x np) (e :: rest) [] pos) env) Q E s := by
  refine wpAny_Call_ofName (nmG f.world hv ?_ hg hk hx hd)
  rw [he] at h
  show wpAny _ _ (callWith pos (.ref q) [] (backTo pos (starEach (e :: rest) env)) []) _ _ _
  rw [he]
  exact ks_call (P := FnAt q) (by show (false || (backTo pos (starEach rest env)).any (·.1)) = true; rw [hst]; rfl) keeps_F (evalArgs_plain h)
theorem oStar {l : Addr} {xs : List Str} {Q : List Value → Shared → Prop} (f : Fm T s₀ L m nw s) (hl : At s.heap l (.strl xs)) (hsz : xs.length ≤ 1000) (h : ∀ vs s', StrsAre vs xs → Fm T s₀ L m nw s' → Q vs s') : StarOf (model prog w) A E (.ref l) Q s := by
  obtain ⟨vs, hv, hs⟩ := hl.strl
  obtain ⟨n, D⟩ := hv.plain
  have hT' : s.TypeIs (.ref l) "list" := ⟨_, D, rfl⟩
  have z : wpAny (model prog w) A (collect (.ref l)) Q E s := by
    refine wpAny_collect_seq l (.inl rfl) D rfl rfl (fun h' hk => ?_) (by rw [List.size_toArray, sizeLine_eq, strs_length hs]; omega)
    exact h vs _ hs (f.kept s.toks hk)
  unfold StarOf notIterableAtAll
  exact wpAny_bind (wpAny_specialOf hT' PySem.F.slot_list_iter.lookup (wpAny_pure ⟨rfl, z⟩))
/-- two new ones of a contract -/
theorem Fm.got2 {T' : List Addr} (f : Fm T s₀ L m nw s) (k : Kp T' s s') {a b : Addr} {sp sp' : OS} (h : At s'.heap a sp) (h' : At s'.heap b sp') (ha : s.heap.objs.size ≤ a) (hb : s.heap.objs.size ≤ b) (hne : a ≠ b) (hT : ∀ b ∈ T', b ∈ T := by simp) :
    Fm T s₀ L m ((b, sp') :: (a, sp) :: nw) s' := by
  have f₁ := f.got k h ha hT
  obtain ⟨h1, h2, h3⟩ := f.fits hb
  refine f₁.add h' h1 h2 fun p hp => ?_
  rcases List.mem_cons.mp hp with rfl | hp
  · exact hne
  · exact h3 p hp
end

section
variable {prog : Program} {w : World} {A : Around} {E : Value → Shared → Prop} {sc s₃ s : Shared} {C : Addr} {m : Str → Option Value} {env : Env} {x : Str} {pos np : Pos} {v : Value} {Q : Value → Shared → Prop} {a b : Int} {t u : Tok} {e : Expr} {rest : List Expr}
/-- one test -/
theorem qOne {Q : Bool → Shared → Prop} {env : Env} (h : wpAny (model prog w) A (isTrue e env (eval e env)) Q E s) :
    wpAny (model prog w) A (forIn [e] true fun c r => if r = true then do let ok ← isTrue c env (eval c env); pure (ForInStep.yield ok) else pure (ForInStep.yield r)) Q E s := by
  simp only [List.forIn_cons, List.forIn_nil, if_true]
  exact wpAny_bind (wpAny_bind (wpAny_mono h (fun ok s' h' => wpAny_pure (wpAny_pure h')) fun _ _ e => e))
theorem qG {q : Addr} (f : Cq sc s₃ C m s) (hv : globs.lookup x = some (.ref q)) (F : FnAt q s.heap)
    (h : wpAny (model prog w) A (spliced (backTo pos (starEach (e :: rest) env))) (fun vs s₁ => FnAt q s₁.heap ∧ wpAny (model prog w) A (call (.ref q) vs) Q E s₁) E s)
    (hg : env.globals = mainGlobals := by rfl) (hk : env.scope.kind = .function := by rfl) (hx : env.kindOf x = some .globalImplicit := by rfl) (hd : (x == ("__debug__" : Str)) = false := by decide)
    (he : starEach (e :: rest) env = (false, eval e env) :: starEach rest env := by rfl) (hplain : (backTo pos (starEach rest env)).any (·.1) = false := by rfl) :
    wpAny (model prog w) A (eval (.Call (.Name x np) (e :: rest) [] pos) env) Q E s :=
  wpAny_Call_ofName (nmG f.wd hv (callWith_F (first := []) F h he hplain) hg hk hx hd)
theorem qIn {l : Addr} {xs : List Int} (f : Cq sc s₃ C m s) (hl : At sc.heap l (.intl xs)) (h : Q (.bool (xs.any (· == a))) s) : wpAny (model prog w) A (compareOp .In (.int a t) (.ref l)) Q E s := by
  obtain ⟨vs, h1, h2⟩ := (f.at hl).il
  exact in_list_ints h1 h2 h
theorem qNotIn {l : Addr} {xs : List Int} (f : Cq sc s₃ C m s) (hl : At sc.heap l (.intl xs)) (h : Q (.bool (!(xs.any (· == a)))) s) : wpAny (model prog w) A (compareOp .NotIn (.int a t) (.ref l)) Q E s := by
  obtain ⟨vs, h1, h2⟩ := (f.at hl).il
  exact notin_list_ints h1 h2 h
end
end Mine

/-! J0 -/
namespace Mine
theorem oldK_of {s s' : Shared} (W : Wd s.heap) (k : Kp [44, 51, 98] s s') : OldK s.heap s'.heap := by
  have key : ∀ b ∈ [44, 51, 98], isCodeTable s.heap b ∧ ∃ ps, s'.heap.get? b = some (tabObj ps) := by
    have c : ∀ {c P : Addr}, CodeHd s.heap c P → isCodeTable s.heap P := fun ⟨o, vs, _, _, _, _, _, _, _, h1, h2, h3, h4, _⟩ => ⟨_, o, vs, h1, h2, h3, h4⟩
    intro b hb
    rcases List.mem_cons.mp hb with rfl | hb
    · exact ⟨c W.c48, let ⟨ps, e, _⟩ := k.tb.i; ⟨ps, e⟩⟩
    rcases List.mem_cons.mp hb with rfl | hb
    · exact ⟨c W.c55, let ⟨ps, e, _⟩ := k.tb.d; ⟨ps, e⟩⟩
    rw [List.mem_singleton.mp hb]
    exact ⟨c W.c102, let ⟨ps, e, _⟩ := k.tb.s; ⟨ps, e⟩⟩
  refine ⟨fun b o e => ?_, fun b o e => ?_⟩
  · by_cases h : b ∈ [44, 51, 98] ∧ o = tabObj #[]
    · obtain ⟨hb, rfl⟩ := h
      obtain ⟨h1, ps, h2⟩ := key b hb
      exact .inr (.inl ⟨h1, rfl, #[], ps, rfl, by rw [h2]; simp [tabObj]⟩)
    · exact .inl (k.keep b o e fun hb ho => h ⟨hb, ho⟩)
  · by_cases h : b ∈ [44, 51, 98]
    · obtain ⟨_, ps, h2⟩ := key b h
      exact ⟨_, h2⟩
    · exact ⟨o, k.keep b o e fun hb => absurd hb h⟩
theorem Fn.of {K : Frag} {h : Heap} {f c : Addr} {st : Stmt} (X : K.In h) (hf : ∃ oc od doc pm ct sl, K.lookup f = some ⟨oc, od, .func (fdOf st doc pm (.ref c) ct), sl⟩) (hc : ∃ oc od vs t sl, K.lookup c = some ⟨oc, od, .fields vs, sl⟩ ∧ vs[1]? = some (.str (nameOf st) t)) : Fn h f c st := by
  obtain ⟨oc, od, doc, pm, ct, sl, e⟩ := hf
  obtain ⟨oc', od', vs, t, sl', e', ev⟩ := hc
  exact ⟨_, doc, pm, ct, X _ _ e, rfl, c, _, vs, t, rfl, X _ _ e', rfl, ev⟩

theorem world_of {w : World} {h : Heap} {mg mb : Str → Option Value} {p loose mean} (X : (hd.heap_39 w.params).In h) (T : Top p loose mean mg mb h) : Wd h := by
  have gl : ∀ x v, globs.lookup x = some v → mg x = some v := by
    intro x v e
    have key : ∀ p ∈ globs, mg p.1 = some p.2 := by
      intro p hp
      refine mg_of X T.g ?_
      revert p
      simp only [globs, List.forall_mem_cons]
      exact ⟨by rfl, by rfl, by rfl, by rfl, by rfl, by rfl, by rfl, by rfl, by rfl, by rfl, by rfl, by rfl, by rfl, by rfl, by rfl, fun _ h => (by cases h)⟩
    have : (x, v) ∈ globs := by
      have gen : ∀ (l : List (Str × Value)), l.lookup x = some v → (x, v) ∈ l := by
        intro l
        induction l with
        | nil => intro h; cases h
        | cons p r ih =>
          obtain ⟨y, u⟩ := p
          intro h
          rw [List.lookup_cons] at h
          cases hxy : x == y with
          | true => rw [hxy] at h; cases h; rw [beq_iff_eq.mp hxy]; exact List.mem_cons_self
          | false => rw [hxy] at h; exact List.mem_cons_of_mem _ (ih h)
      exact gen _ e
    exact key _ this
  have bl : ∀ x ∈ blts, mg x = none := by
    intro x hx
    refine mg_none_of X T.g ?_
    revert x
    simp only [blts, List.forall_mem_cons]
    exact ⟨by rfl, by rfl, by rfl, by rfl, by rfl, by rfl, by rfl, fun _ h => (by cases h)⟩
  have hbm : mg "__builtins__" = some (.ref 4) := mg_of X T.g (by rfl)
  have ba : ∀ P : Addr, (4 : Addr) ≠ P → h.BuiltinsAt mg P := by
    intro P hP
    obtain ⟨bm, ob, h1, h2, h3, h4, h5, h6⟩ := T.bmain
    rw [hbm] at h1; cases h1
    exact ⟨4, ob, hbm, h2, by decide, hP, h3, h4, h5, h6⟩
  refine ⟨⟨mg, T.g, gl, bl, ba 44 (by decide), ba 51 (by decide), ba 98 (by decide)⟩, ⟨mb, T.b, T.builtins⟩, T.nolimit, ?_, ?_, ?_, ?_, ?_, ?_, ?_, ?_, ?_, ?_, ?_, ?_, ?_, ?_, ?_, ?_, ?_⟩
  iterate 14
    exact Fn.of X ⟨_, _, _, _, _, _, by rfl⟩ ⟨_, _, _, _, _, by rfl, by rfl⟩
  · exact codeHd_of_K X (by rfl)
  · exact codeHd_of_K X (by rfl)
  · exact codeHd_of_K X (by rfl)
end Mine

/-! J1 -/
namespace Mine
theorem tabs_of {h : Heap} (KT : ∀ P ∈ [98, 44, 51], h.get? P = some (tabObj #[])) : Tb h :=
  ⟨⟨#[], KT 44 (by simp), .inl rfl⟩, ⟨#[], KT 51 (by simp), .inl rfl⟩, ⟨#[], KT 98 (by simp), .inl rfl⟩⟩
theorem callerOk : Ok callerA 100 := ⟨rfl, by show 1 + 300 + 100 ≤ 900; decide, by show 4 + 4 * 100 ≤ 9000; decide⟩
def LawOk : Prop := ∀ {w : World} {s : Shared} {E : Value → Shared → Prop} {Q : Value → Shared → Prop} {a : Addr} {xs : List Int}, Wd s.heap → Tb s.heap → Il s.heap a xs → xs.length ≤ 63 →
  (∀ s', Kp [44, 51, 98] s s' → Q (.bool true) s') → wpAny (model PG w) callerA (call (.ref 115) [.ref a]) Q E s
theorem holds_of (hlaw : LawOk) : PySem.Challenge.rw_pk0088_01.Holds := by
  refine hd ?_
  intro w s₀ s₁ mg mb G Y fa o pm cd doc dV kV ho hd hcd hD hmg hg args vals as hpre hlay hrd hwl hlo
  have KX := km_in_of Y
  have KT := km_tabs_of Y
  have T := G.T
  have W := world_of KX T
  have hfa : fa = 115 := by
    have e : mg "law" = some (.ref 115) := mg_of KX T.g (by rfl)
    have e' : mg "law" = some (.ref fa) := hmg
    rw [e] at e'; cases e'; rfl
  subst hfa
  clear hd
  wrow_args hpre hlay hrd hwl hlo
  rename_i xs _ _ _ _ _ _ _ a vs _ hl _ _ _ hI _ hlen _
  refine hlaw W (tabs_of KT) ⟨vs, hl, hI⟩ (by omega) ?_
  intro s' k
  refine ⟨.inl ⟨.bool true, .bool true, [], rfl, ?_, ?_, ?_, ?_⟩, oldK_of W k, ?_, ?_⟩
  · intro cls; rfl
  · exact .bool _
  · wrow_post
  · intro _; exact ⟨List.nodup_nil, fun _ h => by cases h⟩
  · obtain ⟨h, tk, rfl⟩ := k.same; rfl
  · obtain ⟨h, tk, rfl⟩ := k.same; exact .of_eq hg
end Mine

namespace Mine
local macro_rules | `(tactic| walk_at "look") => `(tactic| ((repeat (first | exact upd_hit | (refine upd_miss (by decide) ?_))); all_goals (first | rfl | assumption)))
local macro_rules | `(tactic| walk_at "mem") => `(tactic| (repeat (first | exact List.mem_cons_self | (refine List.mem_cons_of_mem _ ?_))))
local macro_rules | `(tactic| walk_at "x") => `(tactic| first
  | ((with_reducible show wpAny _ _ (eval (PySem.Expr.Name _ _) _) _ _ _); first | refine nmL (by assumption) (by walk_at "look") ?_ | refine nmC (by assumption) (by rfl) (by walk_at "mem") ?_)
  | ((with_reducible show wpAny _ _ (eval (PySem.Expr.Constant (PySem.Const.int _) _ _) _) _ _ _); refine cI (by assumption) ?_; intro _ _ _)
  | ((with_reducible show wpAny _ _ (eval (PySem.Expr.Constant (PySem.Const.str _) _ _) _) _ _ _); refine cS (by assumption) ?_; intro _ _ _)
  | ((with_reducible show wpAny _ _ (eval (PySem.Expr.BinOp _ _ _ _) _) _ _ _); refine wpAny_BinOp ?_)
  | ((with_reducible show wpAny _ _ (binaryOp PySem.Operator.Add (Value.int _ _) (Value.int _ _)) _ _ _); refine oAdd (by assumption) ?_; intro _ _ _)
  | ((with_reducible show wpAny _ _ (binaryOp PySem.Operator.Sub (Value.int _ _) (Value.int _ _)) _ _ _); refine oSub (by assumption) ?_; intro _ _ _)
  | ((with_reducible show wpAny _ _ (spliced (backTo _ (starEach (_ :: _) _))) _ _ _); refine spl ?_)
  | ((with_reducible show wpAny _ _ (spliced (backTo _ (starEach [] _))) _ _ _); refine spn ?_))
local macro_rules | `(tactic| walk_at "b") => `(tactic| (with_reducible show wpAny _ _ _ _ _ _))
local macro_rules | `(tactic| walk_at "st") => `(tactic| first
  | ((with_reducible show wpAny _ _ (execs (_ :: _) _) _ _ _); refine wpAny_execs_cons ?_)
  | ((with_reducible show wpAny _ _ (execs [] _) _ _ _); refine wpAny_execs_nil ?_)
  | ((with_reducible show wpAny _ _ (exec (PySem.Stmt.Assign [PySem.Expr.Name _ _] _ _) _) _ _ _); refine wpAny_Assign_Name ?_ (by rfl))
  | ((with_reducible show wpAny _ _ (storeName _ _ _) _ _ _); refine stL (by assumption) ?_; intro _ _)
  | ((with_reducible show wpAny _ _ (exec (PySem.Stmt.Return (some _) _) _) _ _ _); refine wpAny_Return_some ?_)
  | (walk_at "x"))
local macro_rules | `(tactic| walk_at "go") => `(tactic| (repeat walk_at "st"))

/-! F110 -/
section
/-- one of _law_seen's -/
def seenF (c d b k : Int) (p : Nat) : Int := (((c * b ^ p).fmod d) * b ^ k.toNat).fdiv d
def seenL (c d b k : Int) (n : Nat) : List Int := (List.range n).map (seenF c d b k)
theorem seenL_succ (c d b k : Int) (n : Nat) : seenL c d b k (n + 1) = seenL c d b k n ++ [seenF c d b k n] := by
  unfold seenL; rw [List.range_succ, List.map_append]; rfl
theorem seenL_length (c d b k : Int) (n : Nat) : (seenL c d b k n).length = n := by unfold seenL; simp
theorem powFits {b : Int} (hb : b = 2 ∨ b = 4) {k : Int} (h0 : 0 ≤ k) (hk : k ≤ 50) : (Builtin.Int.intBits b : Int) * k ≤ 2 ^ 27 := by
  have h : (Builtin.Int.intBits b : Int) ≤ 3 := by rcases hb with rfl | rfl <;> decide +kernel
  have h1 : (Builtin.Int.intBits b : Int) * k ≤ 3 * 50 := Int.mul_le_mul h hk h0 (by decide)
  omega
theorem bitsSmall {a : Int} (h : a.natAbs < 2 ^ 64) : Builtin.Int.intBits a ≤ 64 := by
  unfold Builtin.Int.intBits
  split
  · omega
  · rename_i hne
    have hz : a.natAbs ≠ 0 := by intro e; apply hne; rw [beq_iff_eq]; omega
    have := (Nat.log2_lt hz).mpr h
    omega
theorem mulL {a b : Int} (h0 : 0 ≤ a) (h : a ≤ 100000) : IntMulOk a b := .of_left (bitsSmall (by omega))

theorem f110 {prog : Program} {w : World} {A : Around} {E : Value → Shared → Prop} {s : Shared} {Q : Value → Shared → Prop} {c d b k : Int} {n : Nat} {t1 t2 t3 t4 t5 : Tok}
    (ok : Ok A 3) (W : Wd s.heap) (tb : Tb s.heap)
    (hc : 0 ≤ c ∧ c ≤ 100) (hd : 2 ≤ d ∧ d ≤ 100) (hb : b = 2 ∨ b = 4) (hk : 0 ≤ k ∧ k ≤ 50) (hn : n ≤ 50)
    (h : ∀ l s', Kp [] s s' → s.heap.objs.size ≤ l → At s'.heap l (.intl (seenL c d b k n)) → Q (.ref l) s') :
    wpAny (model prog w) A (call (.ref 110) [.int c t1, .int d t2, .int b t3, .int n t4, .int k t5]) Q E s := by
  refine enter (T := []) ["number", "divisor", "base", "size", "front"] W tb W.f110 ok.room (fun _ _ _ => rfl) (by decide +kernel) (by decide +kernel) (by decide +kernel) ?_
  intro E' L s₁ f₁
  refine wpAny_execs_cons ?_
  walk_at "st"
  refine dL (spn ?_)
  refine nwI f₁ .nil ?_ (by simp)
  intro l s₂ hl f₂
  walk_at "go"
  rename_i s₃ f₃
  refine wpAny_For ?_
  refine cT f₃ (by decide) bt_range ?_
  walk_at "go"
  refine forRange ok.h (by omega) f₃ (fun i m nw => m "number" = some (.int c t1) ∧ m "divisor" = some (.int d t2) ∧ m "base" = some (.int b t3) ∧ m "front" = some (.int k t5) ∧ m "seen" = some (.ref l) ∧ nw = [(l, .intl (seenL c d b k i))]) ⟨by walk_at "look", by walk_at "look", by walk_at "look", by walk_at "look", by walk_at "look", rfl⟩ ?_ ?_
  · rintro E'' i t I m₁ nw₁ o s₄ hi ⟨h1, h2, h3, h4, h5, rfl⟩ f₄
    obtain ⟨vs, hvs, _⟩ := (f₄.at (a := l) (by walk_at "mem")).intl
    walk_at "st"
    refine stApp f₄ (by walk_at "look") hvs ?_
    walk_at "go"
    walk_at "b"
    refine oPow (by assumption) (by omega) (powFits hb (by omega) (by omega)) ?_
    intro _ _ _
    walk_at "b"
    refine oMul (by assumption) (mulL hc.1 (by omega)) ?_
    intro _ _ _
    walk_at "go"
    walk_at "b"
    refine oMod (by assumption) (by omega) ?_
    intro _ _ _
    walk_at "go"
    walk_at "b"
    refine oPow (by assumption) (by omega) (powFits hb (by omega) (by omega)) ?_
    intro _ _ _
    walk_at "b"
    have hm0 := Int.fmod_nonneg_of_pos (c * b ^ (i : Int).toNat) (b := d) (by omega)
    have hm1 := Int.fmod_lt_of_pos (c * b ^ (i : Int).toNat) (b := d) (by omega)
    refine oMul (by assumption) (mulL hm0 (by omega)) ?_
    intro _ _ _
    walk_at "go"
    walk_at "b"
    refine oDiv (by assumption) (by omega) (by omega) ?_
    intro _ _ _
    walk_at "b"
    refine apI (pre := [(I, .raw o)]) (by assumption) ?_ (by rw [seenL_length]; omega)
    intro s₅ f₅
    refine wpAny_execs_nil ?_
    have f₆ : Fm [] s L (upd m₁ "power" (.int i t)) ((I, .raw o) :: [(l, .intl (seenL c d b k (i + 1)))]) s₅ := by rw [seenL_succ]; exact f₅
    exact ⟨_, _, ⟨by walk_at "look", by walk_at "look", by walk_at "look", by walk_at "look", by walk_at "look", rfl⟩, f₆⟩
  · rintro s₃ m₃ nw₃ ⟨h1, h2, h3, h4, h5, rfl⟩ f₃
    walk_at "go"
    exact h _ _ f₃.kp (Nat.le_trans f₁.kp.grow hl) (f₃.at List.mem_cons_self)
end

/-! F28 -/
section
theorem fnAt_ext {T : List Addr} {q : Addr} {h h' : Heap} (x : FnAt q h) (e : Ext T h h') : FnAt q h' := by
  obtain ⟨oc, od, fd, sl, e1⟩ := x
  exact ⟨oc, od, fd, sl, e.dull e1 (dull_func rfl)⟩
structure PredOk (prog : Program) (w : World) (s : Shared) (q : Addr) (xs : List Int) (p : Int → Bool) : Prop where
  fn : FnAt q s.heap
  call : ∀ (A : Around) (E : Value → Shared → Prop) (s₁ : Shared) (x : Int) (t : Tok) (Q : Value → Shared → Prop), Ok A 4 → x ∈ xs → Kp [] s s₁ → (∀ s₂, Kp [] s₁ s₂ → Q (.bool (p x)) s₂) →
    wpAny (model prog w) A (call (.ref q) [.int x t]) Q E s₁
theorem take_succ_of_get {α : Type} {xs : List α} {i : Nat} {x : α} (h : xs[i]? = some x) : xs.take (i + 1) = xs.take i ++ [x] := by
  obtain ⟨hi, rfl⟩ := List.getElem?_eq_some_iff.mp h
  exact (List.take_append_getElem hi).symm

theorem f28 {prog : Program} {w : World} {A : Around} {E : Value → Shared → Prop} {s : Shared} {Q : Value → Shared → Prop} {a q : Addr} {xs : List Int} {p : Int → Bool}
    (ok : Ok A 6) (W : Wd s.heap) (tb : Tb s.heap) (ha : At s.heap a (.intl xs)) (hx : xs.length ≤ 1000) (P : PredOk prog w s q xs p)
    (h : ∀ r l1 l2 s', Kp [] s s' → s.heap.objs.size ≤ r → s.heap.objs.size ≤ l1 → s.heap.objs.size ≤ l2 → [r, l2, l1].Nodup → At s'.heap r (.tup [.ref l1, .ref l2]) → At s'.heap l1 (.intl (xs.filter p)) →
      At s'.heap l2 (.intl (xs.filter fun x => !p x)) → Q (.ref r) s') :
    wpAny (model prog w) A (call (.ref 28) [.ref a, .ref q]) Q E s := by
  refine enter (T := []) ["s", "predicate"] W tb W.f28 ok.room (fun _ _ _ => rfl) (by decide +kernel) (by decide +kernel) (by decide +kernel) ?_
  intro E' L s₁ f₁
  refine wpAny_execs_cons ?_
  walk_at "st"
  refine dL (spn ?_)
  refine nwI f₁ .nil ?_ (by simp)
  intro l1 s₂ hl1 f₂
  walk_at "go"
  rename_i s₃ f₃
  refine dL (spn ?_)
  refine nwI f₃ .nil ?_ (by simp)
  intro l2 s₄ hl2 f₄
  walk_at "go"
  rename_i s₅ f₅
  refine wpAny_For ?_
  walk_at "x"
  obtain ⟨vs, hvs, hI⟩ := ha.intl
  obtain ⟨oa, hoa, hok⟩ := hvs
  have hoa5 : s₅.heap.get? a = some oa := f₅.keep.dull hoa hok.dull
  refine forList ok.h f₅ hoa5 hok (fun i m nw => m "predicate" = some (.ref q) ∧ m "yes" = some (.ref l1) ∧ m "no" = some (.ref l2) ∧ nw = [(l2, .intl ((xs.take i).filter fun x => !p x)), (l1, .intl ((xs.take i).filter p))])
    ⟨by walk_at "look", by walk_at "look", by walk_at "look", by simp⟩ (.inl hoa) ?_ ?_
  · rintro E'' i v I m₁ nw₁ o s₆ hv ⟨h1, h2, h3, rfl⟩ f₆
    obtain ⟨x, t, rfl, hx'⟩ := ints_get' hI hv
    have hxm : x ∈ xs := List.mem_of_getElem? hx'
    walk_at "st"
    refine wpAny_If ?_
    refine wpAny_isTrue_value ?_
    refine cL f₆ (by walk_at "look") (fnAt_ext P.fn f₆.keep) ?_
    walk_at "go"
    refine ⟨fnAt_ext P.fn f₆.keep, ?_⟩
    refine P.call _ _ _ _ _ _ ((ok.le (by omega)).deeper _) hxm f₆.kp ?_
    intro s₇ k₇
    have f₇ := f₆.call k₇
    refine wpAny_truthy_bool ?_
    have len : ∀ g : Int → Bool, ((xs.take i).filter g).length ≤ 1000 := fun g => Nat.le_trans (List.length_filter_le _ _) (by rw [List.length_take]; omega)
    cases hp : p x with
    | true =>
      refine iteT rfl ?_
      obtain ⟨vs1, hvs1, _⟩ := (f₇.at (a := l1) (by walk_at "mem")).intl
      walk_at "st"
      refine stApp f₇ (by walk_at "look") hvs1 ?_
      walk_at "go"
      walk_at "b"
      refine apI (pre := [_, _]) f₇ ?_ (by have := len p; omega)
      intro s₈ f₈
      walk_at "go"
      have f₉ : Fm [] s L (upd m₁ "x" (.int x t)) ((I, .raw o) :: [(l2, .intl ((xs.take (i + 1)).filter fun x => !p x)), (l1, .intl ((xs.take (i + 1)).filter p))]) s₈ := by
        simp only [take_succ_of_get hx', List.filter_append, List.filter_cons, List.filter_nil, hp]
        simpa using f₈
      exact ⟨_, _, ⟨by walk_at "look", by walk_at "look", by walk_at "look", rfl⟩, f₉⟩
    | false =>
      refine iteF rfl ?_
      obtain ⟨vs1, hvs1, _⟩ := (f₇.at (a := l2) (by walk_at "mem")).intl
      walk_at "st"
      refine stApp f₇ (by walk_at "look") hvs1 ?_
      walk_at "go"
      walk_at "b"
      refine apI (pre := [_]) f₇ ?_ (by have := len fun x => !p x; omega)
      intro s₈ f₈
      walk_at "go"
      have f₉ : Fm [] s L (upd m₁ "x" (.int x t)) ((I, .raw o) :: [(l2, .intl ((xs.take (i + 1)).filter fun x => !p x)), (l1, .intl ((xs.take (i + 1)).filter p))]) s₈ := by
        simp only [take_succ_of_get hx', List.filter_append, List.filter_cons, List.filter_nil, hp]
        simpa using f₈
      exact ⟨_, _, ⟨by walk_at "look", by walk_at "look", by walk_at "look", rfl⟩, f₉⟩
  · rintro s₆ m₆ nw₆ ⟨h1, h2, h3, rfl⟩ f₆
    rw [ints_length hI, List.take_length] at f₆
    walk_at "go"
    refine dT ?_
    walk_at "go"
    refine nwT f₆ ?_ (by simp)
    intro r s₇ hr f₇
    refine h r l1 l2 s₇ f₇.kp (Nat.le_trans f₆.kp.grow hr) (Nat.le_trans f₁.kp.grow hl1) (Nat.le_trans f₃.kp.grow hl2) (by simpa using f₇.nd) (f₇.at (by walk_at "mem")) (f₇.at (by walk_at "mem")) (f₇.at (by walk_at "mem"))
end

/-! F77 -/
section
open PySem.Builtin PySem.Builtin.Str
theorem dots : (Str.ofString "..." : Str) = S [46, 46, 46] := by decide +kernel
theorem occ_empty (l : List Nat) (i : Nat) (h : i ≤ l.length) : occurrences (S l) (S []) i (S l).length 1 = [i] := by
  rcases StrLaws.occ_head_from (S l) (S []) i 1 (Nat.le_refl _) with ⟨_, hn⟩ | ⟨k, r, e, h1, h2, h3⟩
  · exact absurd ((At_S l [] i).mpr ⟨by simpa using h, by simp⟩) (hn i (Nat.le_refl _))
  · have hk : k = i := by
      by_cases hk : k = i
      · exact hk
      · exact absurd ((At_S l [] i).mpr ⟨by simpa using h, by simp⟩) (h3 i (Nat.le_refl _) (by omega))
    have hl := StrLaws.occ_length_le (S l) (S []) i (S l).length 1
    rw [e] at hl
    have : r = [] := by cases r with | nil => rfl | cons a b => simp at hl
    rw [e, hk, this]
theorem occ_word (l y : List Nat) : (occurrences (S l) (S y) 0 (S l).length 1 = [] ∧ Txt.contains (S l) (S y) = false) ∨ ∃ k, occurrences (S l) (S y) 0 (S l).length 1 = [k] ∧ k + y.length ≤ l.length ∧ Txt.contains (S l) (S y) = true := by
  rcases StrLaws.occ_head_from (S l) (S y) 0 1 (Nat.le_refl _) with ⟨e, hn⟩ | ⟨k, r, e, h1, h2, h3⟩
  · exact .inl ⟨e, by unfold Txt.contains; rw [e]; rfl⟩
  · have hl := StrLaws.occ_length_le (S l) (S y) 0 (S l).length 1
    rw [e] at hl
    have : r = [] := by cases r with | nil => rfl | cons a b => simp at hl
    subst this
    exact .inr ⟨k, e, ((At_S l y k).mp h2).1, by unfold Txt.contains; rw [e]; rfl⟩

theorem f77 {prog : Program} {w : World} {A : Around} {E : Value → Shared → Prop} {s : Shared} {Q : Value → Shared → Prop} {wd g : List Nat} {t1 t2 : Tok}
    (ok : Ok A 3) (W : Wd s.heap) (tb : Tb s.heap) (hw : 46 ∉ wd) (hwl : wd.length ≤ 100) (hg : g.length ≤ 1000)
    (h : ∀ s', Kp [] s s' → Q (.bool (Txt.contains (S g) (S wd))) s') :
    wpAny (model prog w) A (call (.ref 77) [.str (S ([46, 46, 46] ++ wd ++ [46, 46, 46])) t1, .str (S g) t2]) Q E s := by
  refine enter (T := []) ["want", "got"] W tb W.f77 ok.room (fun _ _ _ => rfl) (by decide +kernel) (by decide +kernel) (by decide +kernel) ?_
  intro E' L s₁ f₁
  have okd := ok.deeper (fenv (stAt 13) 77 76 L)
  refine wpAny_execs_cons ?_
  refine wpAny_If ?_
  refine wpAny_isTrue_Compare1 ?_
  refine nmG f₁.world (by rfl) ?_
  walk_at "x"
  walk_at "b"
  rw [dots]
  refine oNotIn ?_
  refine wpAny_truthy_bool ?_
  refine iteF (by rw [contains_dots]; rfl) ?_
  walk_at "go"
  refine mC F.plainAttrs_str F.slot_str_split F.type_str_split ?_
  walk_at "x"
  refine ⟨typeIs_str _ _ _, fun a e => (by cases e), ?_⟩
  walk_at "x"
  refine nmG f₁.world (by rfl) ?_
  walk_at "go"
  rw [dots]
  refine oSplit f₁ (by decide) (by rw [S_len]; simp <;> omega) ?_
  intro lw s₂ hlw f₂
  rw [split_dots wd hw] at f₂
  obtain ⟨vs, hvs, hS⟩ := (f₂.at (a := lw) List.mem_cons_self).strl
  obtain ⟨oa, hoa, hok⟩ := hvs
  replace f₂ := f₂.respec (pre := []) (sp' := .raw oa) ⟨oa, hoa, rfl, hok.dull⟩
  have isl : ∀ {s' : Shared}, s'.heap.get? lw = some oa → s'.heap.IsList lw vs.toArray := fun e => At.isList ⟨oa, e, hok⟩
  have hvl : vs.length = 3 := strs_length hS
  walk_at "go"
  rename_i s₃ f₃
  refine wpAny_Assert_holds ?_
  refine wpAny_isTrue_Compare1 ?_
  refine cB f₃ (by decide) bt_len ?_
  walk_at "go"
  refine oLenL f₃ (isl (f₃.rawAt List.mem_cons_self)) (by omega) ?_
  intro _ _ _
  walk_at "go"
  walk_at "b"
  rw [hvl]
  refine ge_int ?_
  refine wpAny_truthy_bool ?_
  refine ⟨by decide, ?_⟩
  walk_at "go"
  refine Assign_Tuple_swapped (names := ["startpos", "endpos"]) ?_
  refine dT ?_
  walk_at "go"
  refine cB (by assumption) (by decide) bt_len ?_
  walk_at "go"
  walk_at "b"
  refine oLenS (by assumption) (by rw [S_len]; omega) ?_
  intro _ _ _
  walk_at "go"
  refine nwT (by assumption) ?_ (by simp)
  intro r s₄ hr f₄
  rename_i _ _ _ _ _ _ t0 _ _ tn _ _
  refine unp2s (x := "startpos") (y := "endpos") (env := fenv (stAt 13) 77 76 L) okd.h f₄ (f₄.at List.mem_cons_self) ?_
  intro s₅ f₅
  replace f₅ := f₅.drop (pre := [])
  obtain ⟨ta, tb', tc, rfl⟩ : ∃ ta tb tc, vs = [.str (S []) ta, .str (S wd) tb, .str (S []) tc] := by
    cases hS with
    | cons _ ta h1 => cases h1 with
      | cons _ tb h2 => cases h2 with
        | cons _ tc h3 => cases h3; exact ⟨ta, tb, tc, rfl⟩
  walk_at "go"
  refine Subscript_ ?_
  walk_at "go"
  walk_at "b"
  rename_i s₆ f₆
  refine sbL (isl (f₆.rawAt List.mem_cons_self)) ?_ [.ref lw, .int 0 _] (by rfl)
  refine wpAny_getItem_list (isl (f₆.rawAt List.mem_cons_self)) (by decide) (by decide) rfl ?_
  walk_at "go"
  refine wpAny_If ?_
  refine wpAny_isTrue_value ?_
  walk_at "x"
  walk_at "b"
  refine oTruS (by assumption) (by decide) ?_
  intro _ _
  refine iteF (by decide) ?_
  walk_at "go"
  refine Subscript_ ?_
  walk_at "x"
  refine wpAny_UnaryOp ?_
  walk_at "go"
  walk_at "b"
  refine oNeg (by assumption) ?_
  intro _ s₇ f₇
  refine sbL (isl (f₇.rawAt List.mem_cons_self)) ?_ [.ref lw, .int (-1) _] (by rfl)
  refine wpAny_getItem_list_neg (isl (f₇.rawAt List.mem_cons_self)) (by decide) (by simp) (by decide) rfl ?_
  walk_at "go"
  refine wpAny_If ?_
  refine wpAny_isTrue_value ?_
  walk_at "x"
  walk_at "b"
  refine oTruS (by assumption) (by decide) ?_
  intro _ _
  refine iteF (by decide) ?_
  walk_at "go"
  refine wpAny_If ?_
  refine wpAny_isTrue_Compare1 ?_
  walk_at "go"
  walk_at "b"
  refine gt_int ?_
  refine wpAny_truthy_bool ?_
  refine iteF (by rw [decide_eq_false_iff_not]; omega) ?_
  walk_at "go"
  rename_i s₈ f₈
  refine wpAny_For ?_
  walk_at "go"
  walk_at "b"
  refine forList okd.h f₈ (f₈.rawAt List.mem_cons_self) hok (fun i m nw => m "got" = some (.str (S g) t2) ∧ m "endpos" = some (.int (S g).length tn) ∧ nw = [(lw, .raw oa)] ∧
      ∃ p t, m "startpos" = some (.int p t) ∧ 0 ≤ p ∧ p ≤ g.length ∧ (i ≤ 1 → p = 0) ∧ (2 ≤ i → Txt.contains (S g) (S wd) = true))
    ⟨by walk_at "look", by walk_at "look", rfl, 0, t0, by walk_at "look", by omega, by omega, fun _ => rfl, fun x => by omega⟩ (.inr fun i m nw hJ => hJ.2.2.1 ▸ List.mem_cons_self) ?_ ?_
  · rintro E'' i v I m₁ nw₁ o s₉ hv ⟨h1, h2, rfl, p, t, h3, hp0, hp1, hp2, hp3⟩ f₉
    have key : ∃ (y : List Nat) (ty : Tok), v = .str (S y) ty ∧ y.length ≤ 100 ∧ ((∃ k : Nat, Builtin.Str.occurrences (S g) (S y) p.toNat (S g).length 1 = [k] ∧ k + y.length ≤ g.length ∧ (i + 1 ≤ 1 → (k : Int) + y.length = 0) ∧ (2 ≤ i + 1 → Txt.contains (S g) (S wd) = true)) ∨
        (Builtin.Str.occurrences (S g) (S y) p.toNat (S g).length 1 = [] ∧ Txt.contains (S g) (S wd) = false)) := by
      match i, hv with
      | 0, hv =>
        cases hv
        have := hp2 (by omega)
        subst this
        exact ⟨[], ta, rfl, by decide, .inl ⟨0, occ_empty g 0 (by omega), by simp, fun _ => rfl, fun x => by omega⟩⟩
      | 1, hv =>
        cases hv
        have := hp2 (by omega)
        subst this
        refine ⟨wd, tb', rfl, hwl, ?_⟩
        rcases occ_word g wd with ⟨e, hc⟩ | ⟨k, e, hk, hc⟩
        · exact .inr ⟨e, hc⟩
        · exact .inl ⟨k, e, hk, fun x => by omega, fun _ => hc⟩
      | 2, hv =>
        cases hv
        exact ⟨[], tc, rfl, by decide, .inl ⟨p.toNat, occ_empty g p.toNat (by omega), by simp; omega, fun x => by omega, fun _ => hp3 (by omega)⟩⟩
      | n + 3, hv => simp at hv
    obtain ⟨y, ty, rfl, hyl, hocc⟩ := key
    walk_at "go"
    refine mC F.plainAttrs_str F.slot_str_find F.type_str_find ?_
    walk_at "x"
    refine ⟨typeIs_str _ _ _, fun a e => (by cases e), ?_⟩
    walk_at "go"
    walk_at "b"
    refine oFind f₉ hp0 ?_
    intro tk s₁₀ f₁₀
    walk_at "go"
    refine wpAny_If ?_
    refine wpAny_isTrue_Compare1 ?_
    walk_at "go"
    walk_at "b"
    refine lt_int ?_
    refine wpAny_truthy_bool ?_
    rcases hocc with ⟨k, e, hk, hk1, hk2⟩ | ⟨e, hc⟩
    · simp only [e]
      refine iteF (by rw [decide_eq_false_iff_not]; omega) ?_
      walk_at "go"
      refine wpAny_AugAssign_Name ?_
      refine ldL (by assumption) (by walk_at "look") ?_
      refine cB (by assumption) (by decide) bt_len ?_
      walk_at "go"
      walk_at "b"
      refine oLenS (by assumption) (by rw [S_len]; omega) ?_
      intro _ _ _
      walk_at "b"
      refine oIadd (by assumption) ?_
      intro _ _ _
      walk_at "go"
      rename_i s₁₁ f₁₁
      refine ⟨_, _, ⟨by walk_at "look", by walk_at "look", rfl, _, _, by walk_at "look", ?_⟩, f₁₁⟩
      simp only [e]
      simp only [S_len]
      exact ⟨by omega, by omega, fun x => hk1 x, hk2⟩
    · simp only [e]
      refine iteT (by decide) ?_
      walk_at "go"
      refine wpAny_Constant_bool ?_
      rw [← hc]
      refine h _ ?_
      rename_i f₁₁
      exact f₁₁.kp
  · rintro s₉ m₉ nw₉ ⟨h1, h2, rfl, p, t, h3, hp0, hp1, hp2, hp3⟩ f₉
    walk_at "go"
    refine wpAny_Constant_bool ?_
    rw [← hp3 (by simp)]
    exact h _ f₉.kp
end

/-! F21 -/
section
open PySem.Builtin PySem.Builtin.Str
theorem bind21 (doc pm cd ct v : Value) (ps : List Value) : bindArgs (fdOf (stAt 1) doc pm cd ct) ⟨v :: ps, []⟩ = (newTuple ps >>= fun t => pure [(("text" : Str), v), (("pairs" : Str), t)]) := by
  cases ps <;> rfl
theorem enterV {prog : Program} {w : World} {A : Around} {E : Value → Shared → Prop} {s : Shared} {Q : Value → Shared → Prop} {v : Value} {ps : List Value}
    (W : Wd s.heap) (tb : Tb s.heap) (hroom : A.depth < recursionLimit) (hps : ps.length ≤ 1000000)
    (h : ∀ (E' : Value → Shared → Prop) (L r : Addr) (s₁ : Shared), Fm [] s L (fun x => [(("text" : Str), v), ("pairs", .ref r)].reverse.lookup x) [(r, .tup ps)] s₁ →
      wpAny (model prog w) (A.deeper (fenv (stAt 1) 21 20 L)) (execs (bodyOf (stAt 1)) (fenv (stAt 1) 21 20 L)) (fun fl s' => Q (match fl with | .ret v => v | _ => .none) s') E' s₁) :
    wpAny (model prog w) A (call (.ref 21) (v :: ps)) Q E s := by
  obtain ⟨o, doc, pm, ct, h1, h2, h3⟩ := W.f21
  refine wpAny_call (codeAny_call_function (body := bodyOf (stAt 1)) hroom h1 h2 (show (scopeOf (stAt 1)).isCoroutine = false by decide +kernel) (show (scopeOf (stAt 1)).isGenerator = false by decide +kernel) rfl h3 ?_)
  rw [bind21]
  refine wpAny_bind (wpAny_newObj_type (wpAny_pure ?_) (by show ps.toArray.size ≤ sizeLine; rw [List.size_toArray, sizeLine_eq]; omega))
  refine wpAny_newFunctionEnv (show ∀ x ∈ (scopeOf (stAt 1)).names, x.2 ≠ .cell by decide +kernel) (fun x hx => ?_) (fun h₁ hns hsb => ?_) (show (scopeOf (stAt 1)).kind = .function by decide +kernel)
  · rcases List.mem_cons.mp hx with rfl | hx
    · show (scopeOf (stAt 1)).names.lookup (Str.ofString "text") = some NameKind.local
      decide +kernel
    · rcases List.mem_cons.mp hx with rfl | hx
      · show (scopeOf (stAt 1)).names.lookup (Str.ofString "pairs") = some NameKind.local
        decide +kernel
      · cases hx
  · have kp : ∀ b o, s.heap.get? b = some o → h₁.get? b = some o := fun b o e =>
      hsb.extBut b o (Nat.ne_of_lt (Nat.lt_of_lt_of_le (Heap.lt_size e) (by simp))) (Heap.get?_push_of_some _ (Heap.get?_push_of_some _ e))
    refine ⟨W.nl.keeps kp, codeAny_func (h _ _ s.heap.objs.size _ ?_)⟩
    refine ⟨⟨_, _, rfl⟩, hns, .of_keeps kp, by simp, fun p hp => ?_, by simp, tb.keeps kp, W⟩
    rcases List.mem_cons.mp hp with rfl | hp
    · refine ⟨⟨_, hsb.extBut _ _ (by simp) (Heap.get?_push_of_some _ (Heap.get?_push_size _ rfl)), rfl, 0, rfl⟩, by simp, fun _ => Heap.get?_none_of_le (Nat.le_refl _)⟩
    · cases hp

/-- signs exchanged, one pair after the other -/
def swaps (ps : List (Nat × Nat)) (l : List Nat) : List Nat := ps.foldl (fun l p => l.map fun d => if d = p.1 then p.2 else d) l
def pairTexts (ps : List (Nat × Nat)) : List Str := ps.flatMap fun p => [S [p.1], S [p.2]]
theorem swaps_length : ∀ (ps : List (Nat × Nat)) (l : List Nat), (swaps ps l).length = l.length
  | [], _ => rfl
  | p :: r, l => by
    show (swaps r _).length = _
    rw [swaps_length r, List.length_map]
theorem pairTexts_drop (p : Nat × Nat) (r : List (Nat × Nat)) : (pairTexts (p :: r)).drop 2 = pairTexts r := rfl
theorem pairTexts_length (ps : List (Nat × Nat)) : (pairTexts ps).length = 2 * ps.length := by
  induction ps with
  | nil => rfl
  | cons p r ih => show (pairTexts r).length + 1 + 1 = _; rw [ih, List.length_cons]; omega
theorem split_sum (x : Str) (c : Nat) : ((Txt.split x (S [c])).map (·.length)).sum + (Txt.split x (S [c])).length ≤ x.length + 1 := split_weight x (S [c]) (Nat.le_refl 1)

theorem f21 {prog : Program} {w : World} {A : Around} {E : Value → Shared → Prop} {s : Shared} {Q : Value → Shared → Prop} {l : List Nat} {ps : List (Nat × Nat)} {vs : List Value} {t1 : Tok}
    (ok : Ok A 3) (W : Wd s.heap) (tb : Tb s.heap) (hl : l.length ≤ 1000) (hv : StrsAre vs (pairTexts ps)) (hps : ps.length ≤ 100)
    (h : ∀ t s', Kp [] s s' → Q (.str (S (swaps ps l)) t) s') :
    wpAny (model prog w) A (call (.ref 21) (.str (S l) t1 :: vs)) Q E s := by
  have hvl := strs_length hv
  rw [pairTexts_length] at hvl
  refine enterV W tb ok.room (by omega) ?_
  intro E' L r s₁ f₁
  have okd := ok.deeper (fenv (stAt 1) 21 20 L)
  refine wpAny_execs_cons ?_
  refine wpAny_While ?_
  refine codeAny_whileLoop (fun n s' => ∃ (m : Str → Option Value) (r : Addr) (qs : List (Nat × Nat)) (l' : List Nat) (t' : Tok) (vs' : List Value), n = qs.length ∧ qs.length ≤ 100 ∧ m "text" = some (.str (S l') t') ∧ m "pairs" = some (.ref r) ∧ l'.length ≤ 1000 ∧ swaps qs l' = swaps ps l ∧ StrsAre vs' (pairTexts qs) ∧
      Fm [] s L m [(r, .tup vs')] s') ?_ ps.length ⟨_, r, ps, l, t1, vs, rfl, hps, rfl, rfl, hl, rfl, hv, f₁⟩
  rintro n s₂ ⟨m, r, qs, l', t', vs', rfl, hq, h1, h2, hl', hsw, hvs, f₂⟩
  have hvl' := strs_length hvs
  rw [pairTexts_length] at hvl'
  refine wpAny_isTrue_value ?_
  walk_at "x"
  walk_at "b"
  refine oTruT f₂ (f₂.at List.mem_cons_self) (by omega) ?_
  intro s₃ f₃
  cases qs with
  | nil =>
    cases hvs
    refine iteF rfl ?_
    walk_at "go"
    have e : l' = swaps ps l := hsw
    subst e
    exact h _ _ f₃.kp
  | cons p qs =>
    obtain ⟨ta, tb', vs'', rfl, hrest⟩ : ∃ ta tb vs'', vs' = .str (S [p.1]) ta :: .str (S [p.2]) tb :: vs'' ∧ StrsAre vs'' (pairTexts qs) := by
      have hh : StrsAre vs' (S [p.1] :: S [p.2] :: pairTexts qs) := hvs
      cases hh with
      | cons _ ta h1 => cases h1 with
        | cons _ tb h2 => exact ⟨ta, tb, _, rfl, h2⟩
    refine iteT rfl ?_
    walk_at "go"
    refine mC F.plainAttrs_str F.slot_str_join F.type_str_join ?_
    refine Subscript_ ?_
    walk_at "go"
    walk_at "b"
    rename_i f₄
    refine sbT (f₄.at List.mem_cons_self) (gTup (k := 1) (f₄.at List.mem_cons_self) rfl (by omega) ?_) [.ref r, .int 1 _] (by rfl)
    refine ⟨typeIs_str _ _ _, fun a e => (by cases e), ?_⟩
    walk_at "x"
    refine mC F.plainAttrs_str F.slot_str_split F.type_str_split ?_
    walk_at "x"
    refine ⟨typeIs_str _ _ _, fun a e => (by cases e), ?_⟩
    walk_at "x"
    refine Subscript_ ?_
    walk_at "go"
    walk_at "b"
    rename_i f₅
    refine sbT (f₅.at List.mem_cons_self) (gTup (k := 0) (f₅.at List.mem_cons_self) rfl (by omega) ?_) [.ref r, .int 0 _] (by rfl)
    walk_at "go"
    refine oSplit f₅ (Nat.le_refl 1) (by rw [S_len]; omega) ?_
    intro lw s₆ _ f₆
    walk_at "go"
    have hw := split_sum (S l') p.1
    rw [S_len] at hw
    refine oJoin f₆ (f₆.at List.mem_cons_self) (by rw [show (S [p.2]).length = 1 from rfl]; omega) ?_
    intro tj s₇ f₇
    rw [swap_S]
    walk_at "go"
    refine Subscript_ ?_
    walk_at "x"
    refine wpAny_Slice ?_
    refine wpAny_evalPart_some ?_
    walk_at "x"
    refine wpAny_evalPart_none ?_
    refine wpAny_evalPart_none ?_
    rename_i f₈
    refine slE f₈ ?_
    intro sl s₉ f₉ hsl _
    refine sbT (f₉.at (by walk_at "mem")) ?_ [.ref sl, .ref r] (by rfl)
    refine gTupFrom (a := 2) f₉ (f₉.at (by walk_at "mem")) hsl (by omega) (by simp) (by have hz := strs_length hrest; rw [pairTexts_length] at hz; simp only [List.length_cons] at hq ⊢; omega) ?_
    intro r' s₁₀ _ f₁₀
    walk_at "go"
    rename_i s₁₁ f₁₁
    refine ⟨qs.length, by simp, _, r', qs, _, tj, vs'', rfl, by simp at hq; omega, by walk_at "look", by walk_at "look", ?_, ?_, hrest, f₁₁.sub ?_⟩
    · rw [List.length_map]; exact hl'
    · exact hsw
    · exact List.Sublist.cons₂ _ (List.nil_sublist _)
end

/-! F96 -/
section
theorem abcd : (Str.ofString "ABCD" : Str) = S [65, 66, 67, 68] := by decide +kernel
def thereOf (sg : List Nat) (n : Nat) : List (Nat × Nat) := (List.range n).map fun i => (sg.getD i 0, 65 + i)
def backOf (sg : List Nat) (b n : Nat) : List (Nat × Nat) := (List.range n).map fun i => (65 + i, sg.getD (b - 1 - i) 0)
theorem pairTexts_append (a b : List (Nat × Nat)) : pairTexts (a ++ b) = pairTexts a ++ pairTexts b := by unfold pairTexts; rw [List.flatMap_append]
theorem thereOf_succ (sg : List Nat) (n : Nat) : pairTexts (thereOf sg (n + 1)) = pairTexts (thereOf sg n) ++ [S [sg.getD n 0], S [65 + n]] := by
  unfold thereOf; rw [List.range_succ, List.map_append, pairTexts_append]; rfl
theorem backOf_succ (sg : List Nat) (b n : Nat) : pairTexts (backOf sg b (n + 1)) = pairTexts (backOf sg b n) ++ [S [65 + n], S [sg.getD (b - 1 - n) 0]] := by
  unfold backOf; rw [List.range_succ, List.map_append, pairTexts_append]; rfl
theorem thereOf_length (sg : List Nat) (n : Nat) : (thereOf sg n).length = n := by unfold thereOf; simp
theorem backOf_length (sg : List Nat) (b n : Nat) : (backOf sg b n).length = n := by unfold backOf; simp

theorem abcd_get {i : Nat} (h : i < 4) : [65, 66, 67, 68][i]? = some (65 + i) := by
  match i, h with
  | 0, _ => rfl
  | 1, _ => rfl
  | 2, _ => rfl
  | 3, _ => rfl
theorem f96 {prog : Program} {w : World} {A : Around} {E : Value → Shared → Prop} {s : Shared} {Q : Value → Shared → Prop} {b : Nat} {sg : List Nat} {t1 t2 : Tok}
    (ok : Ok A 3) (W : Wd s.heap) (tb : Tb s.heap) (hb : b ≤ 4) (hsg : sg.length = b)
    (h : ∀ l s', Kp [] s s' → s.heap.objs.size ≤ l → At s'.heap l (.strl (pairTexts (thereOf sg b ++ backOf sg b b))) → Q (.ref l) s') :
    wpAny (model prog w) A (call (.ref 96) [.int b t1, .str (S sg) t2]) Q E s := by
  refine enter (T := []) ["base", "signs"] W tb W.f96 ok.room (fun _ _ _ => rfl) (by decide +kernel) (by decide +kernel) (by decide +kernel) ?_
  intro E' L s₁ f₁
  have okd := ok.deeper (fenv (stAt 17) 96 95 L)
  refine wpAny_execs_cons ?_
  walk_at "st"
  refine dL (spn ?_)
  refine nwS f₁ .nil ?_ (by simp)
  intro l1 s₂ hl1 f₂
  walk_at "go"
  rename_i s₃ f₃
  refine dL (spn ?_)
  refine nwS f₃ .nil ?_ (by simp)
  intro l2 s₄ hl2 f₄
  walk_at "go"
  rename_i s₅ f₅
  refine wpAny_For ?_
  refine cT f₅ (by decide) bt_range ?_
  walk_at "go"
  refine forRange okd.h (by omega) f₅ (fun i m nw => m "base" = some (.int b t1) ∧ m "signs" = some (.str (S sg) t2) ∧ ∃ l1 l2, m "there" = some (.ref l1) ∧ m "back" = some (.ref l2) ∧ nw = [(l2, .strl (pairTexts (backOf sg b i))), (l1, .strl (pairTexts (thereOf sg i)))])
    ⟨by walk_at "look", by walk_at "look", l1, l2, by walk_at "look", by walk_at "look", rfl⟩ ?_ ?_
  · rintro E'' i t I m₁ nw₁ o s₆ hi ⟨h1, h2, l1, l2, h3, h4, rfl⟩ f₆
    have hsi : sg[i]? = some (sg.getD i 0) := by rw [List.getD_eq_getElem?_getD]; rw [List.getElem?_eq_getElem (by omega)]; rfl
    have hsj : sg[b - 1 - i]? = some (sg.getD (b - 1 - i) 0) := by rw [List.getD_eq_getElem?_getD]; rw [List.getElem?_eq_getElem (by omega)]; rfl
    have habcd := abcd_get (i := i) (by omega)
    have n1 : (pairTexts (thereOf sg i)).length ≤ 10 := by rw [pairTexts_length, thereOf_length]; omega
    have n2 : (pairTexts (backOf sg b i)).length ≤ 10 := by rw [pairTexts_length, backOf_length]; omega
    walk_at "go"
    refine dL ?_
    walk_at "x"
    refine Subscript_ ?_
    walk_at "go"
    walk_at "b"
    refine sbS (gS f₆ hsi (by omega) ?_) [.str (S sg) t2, .int i t] (by rfl)
    intro ta s₇ f₇
    walk_at "x"
    refine Subscript_ ?_
    walk_at "go"
    walk_at "b"
    rename_i tq s₈ f₈
    rw [abcd]
    refine sbS (gS f₈ habcd (by decide) ?_) [.str (S [65, 66, 67, 68]) tq, .int i t] (by rfl)
    intro tb' s₉ f₉
    walk_at "go"
    refine nwS f₉ (.cons _ _ (.cons _ _ .nil)) ?_ (by simp)
    intro l3 s₁₀ _ f₁₀
    walk_at "b"
    refine oCatS f₁₀ (f₁₀.at (by walk_at "mem")) (f₁₀.at (by walk_at "mem")) (by simp only [List.length_cons, List.length_nil]; omega) ?_
    intro l4 s₁₁ _ f₁₁
    walk_at "go"
    refine dL ?_
    walk_at "x"
    refine Subscript_ ?_
    walk_at "go"
    walk_at "b"
    rename_i tq' s₁₂ f₁₂
    refine sbS (gS f₁₂ habcd (by decide) ?_) [.str (S [65, 66, 67, 68]) tq', .int i t] (by rfl)
    intro tc s₁₃ f₁₃
    walk_at "x"
    refine Subscript_ ?_
    walk_at "go"
    walk_at "b"
    rename_i tz s₁₄ f₁₄
    have e : (b : Int) - 1 - (i : Int) = ((b - 1 - i : Nat) : Int) := by omega
    rw [e]
    refine sbS (gS f₁₄ hsj (by omega) ?_) [.str (S sg) t2, .int ((b - 1 - i : Nat) : Int) tz] (by rfl)
    intro td s₁₅ f₁₅
    walk_at "go"
    refine nwS f₁₅ (.cons _ _ (.cons _ _ .nil)) ?_ (by simp)
    intro l5 s₁₆ _ f₁₆
    walk_at "b"
    refine oCatS f₁₆ (f₁₆.at (a := l2) (by walk_at "mem")) (f₁₆.at (by walk_at "mem")) (by simp only [List.length_cons, List.length_nil]; omega) ?_
    intro l6 s₁₇ _ f₁₇
    walk_at "go"
    rename_i s₁₈ f₁₈
    rw [← thereOf_succ, ← backOf_succ] at f₁₈
    have f₁₉ := (f₁₈.front (pre := [_, _, _, _])).sub (nw' := [(I, .raw o), (l6, .strl (pairTexts (backOf sg b (i + 1)))), (l4, .strl (pairTexts (thereOf sg (i + 1))))]) (List.Sublist.cons₂ _ (List.Sublist.cons₂ _ (List.Sublist.cons _ (List.Sublist.cons₂ _ (List.nil_sublist _)))))
    exact ⟨_, _, ⟨by walk_at "look", by walk_at "look", l4, l6, by walk_at "look", by walk_at "look", rfl⟩, f₁₉⟩
  · rintro s₆ m₆ nw₆ ⟨h1, h2, l1, l2, h3, h4, rfl⟩ f₆
    walk_at "go"
    walk_at "b"
    refine oCatS f₆ (f₆.at (by walk_at "mem")) (f₆.at (by walk_at "mem")) (by rw [pairTexts_length, pairTexts_length, thereOf_length, backOf_length]; omega) ?_
    intro l3 s₇ hl3 f₇
    rw [← pairTexts_append] at f₇
    exact h _ _ f₇.kp (Nat.le_trans f₆.kp.grow hl3) (f₇.at List.mem_cons_self)
end

/-! F56 -/
section
/-- the value of figures, the least first -/
def digVal (n : Nat) : List Int → Int
  | [] => 0
  | d :: r => d + 2 ^ n * digVal n r
theorem digVal_append (n : Nat) : ∀ a b : List Int, digVal n (a ++ b) = digVal n a + 2 ^ (n * a.length) * digVal n b
  | [], b => by simp [digVal]
  | d :: r, b => by
    show d + 2 ^ n * digVal n (r ++ b) = d + 2 ^ n * digVal n r + 2 ^ (n * (r.length + 1)) * digVal n b
    rw [digVal_append n r b, Nat.mul_succ, Nat.add_comm (n * r.length) n, Int.pow_add, Int.mul_add, Int.mul_assoc, Int.add_assoc]
theorem digVal_bound (n : Nat) : ∀ l : List Int, (∀ d ∈ l, 0 ≤ d ∧ d < 2 ^ n) → 0 ≤ digVal n l ∧ digVal n l < 2 ^ (n * l.length)
  | [], _ => by simp [digVal]
  | d :: r, h => by
    have ih := digVal_bound n r fun x hx => h x (List.mem_cons_of_mem _ hx)
    have hd := h d List.mem_cons_self
    have hp : (0 : Int) < 2 ^ n := Int.pow_pos (by decide)
    show 0 ≤ d + 2 ^ n * digVal n r ∧ d + 2 ^ n * digVal n r < 2 ^ (n * (r.length + 1))
    rw [Nat.mul_succ, Nat.add_comm (n * r.length) n, Int.pow_add]
    have h1 : 0 ≤ 2 ^ n * digVal n r := Int.mul_nonneg (Int.le_of_lt hp) ih.1
    have h2 : 2 ^ n * digVal n r + 2 ^ n ≤ 2 ^ n * 2 ^ (n * r.length) := by
      have : (2 : Int) ^ n * (digVal n r + 1) ≤ 2 ^ n * 2 ^ (n * r.length) := Int.mul_le_mul_of_nonneg_left (by omega) (Int.le_of_lt hp)
      rw [Int.mul_add, Int.mul_one] at this
      exact this
    omega

/-- inner's data, as _digits2int's call lays it -/
def d2iFn (clos : List (Str × Addr)) (doc pm : Value) (c' : Addr) (ctv : Value) : Obj := fnMade (nameOf d2i) qD2i (argsOf d2i) (bodyOf d2i) (scopeOf d2i) clos doc pm c' ctv
structure D2i (h : Heap) (q : Addr) (ds : List Int) (n : Nat) : Prop where
  ex : ∃ cd cn ci doc pm c' ctv dl tn, h.get? q = some (d2iFn [("n", cn), ("inner", ci), ("digits", cd)] doc pm c' ctv) ∧ h.CodeRec (.ref c') qD2i ∧ At h cd (.cell (some (.ref dl))) ∧ At h ci (.cell (some (.ref q))) ∧ At h cn (.cell (some (.int n tn))) ∧ At h dl (.intl ds)
theorem D2i.ext {T : List Addr} {h h' : Heap} {q : Addr} {ds : List Int} {n : Nat} (x : D2i h q ds n) (e : Ext T h h') : D2i h' q ds n := by
  obtain ⟨cd, cn, ci, doc, pm, c', ctv, dl, tn, h1, h2, h3, h4, h5, h6⟩ := x.ex
  exact ⟨⟨cd, cn, ci, doc, pm, c', ctv, dl, tn, e.dull h1 (dull_func rfl), e.codeRec h2, h3.ext e, h4.ext e, h5.ext e, h6.ext e⟩⟩
theorem D2i.fn {h : Heap} {q : Addr} {ds : List Int} {n : Nat} (x : D2i h q ds n) : FnAt q h := by
  obtain ⟨cd, cn, ci, doc, pm, c', ctv, dl, tn, h1, _⟩ := x.ex
  exact fnAt_of h1 rfl

theorem d2iS1 : ((scopeOf d2i).names.all fun x => x.2 != .cell) = true := by decide +kernel
theorem d2iS2 : ([("L" : Str), "R"].all fun x => (scopeOf d2i).names.lookup x == some .local) = true := by decide +kernel
theorem d2iS3 : ((scopeOf d2i).isCoroutine || (scopeOf d2i).isGenerator || (scopeOf d2i).kind != .function) = false := by decide +kernel
theorem mulSmall {a b : Int} (h0 : 0 ≤ a) (h : a ≤ 100000) : IntMulOk a b := .of_left (by
  unfold Builtin.Int.intBits
  split
  · omega
  · rename_i hne
    have hz : a.natAbs ≠ 0 := by intro e; apply hne; rw [beq_iff_eq]; omega
    have := (Nat.log2_lt hz (k := 64)).mpr (by omega)
    omega)
theorem ipow_le {a b : Nat} (h : a ≤ b) : (2 : Int) ^ a ≤ 2 ^ b := by
  have := Nat.pow_le_pow_right (n := 2) (by decide) h
  exact_mod_cast this
theorem take_drop_split (ds : List Int) {a b c : Nat} (h1 : a ≤ b) (h2 : b ≤ c) : (ds.drop a).take (c - a) = (ds.drop a).take (b - a) ++ (ds.drop b).take (c - b) := by
  have e : c - a = (b - a) + (c - b) := by omega
  rw [e, List.take_add, List.drop_drop]
  congr 2
  congr 1
  omega

theorem f56i {prog : Program} {w : World} {ds : List Int} {n : Nat} (hds : ∀ d ∈ ds, 0 ≤ d ∧ d < 2 ^ n) (hn : n * ds.length ≤ 60) (hn2 : n ≤ 60) (hl : ds.length ≤ 60) :
    ∀ (k : Nat) {A : Around} {E : Value → Shared → Prop} {s : Shared} {Q : Value → Shared → Prop} {q : Addr} {a b : Nat} {t1 t2 : Tok}, b - a ≤ k → a < b → b ≤ ds.length → Ok A (k + 2) → Wd s.heap → Tb s.heap → D2i s.heap q ds n →
      (∀ t s', Kp [] s s' → Q (.int (digVal n ((ds.drop a).take (b - a))) t) s') → wpAny (model prog w) A (call (.ref q) [.int a t1, .int b t2]) Q E s := by
  intro k
  induction k with
  | zero => intro A E s Q q a b t1 t2 h1 h2; omega
  | succ k ih =>
    intro A E s Q q a b t1 t2 hk hab hb ok W tb X h
    obtain ⟨cd, cn, ci, doc, pm, c', ctv, dl, tn, h1, h2, h3, h4, h5, h6⟩ := X.ex
    refine enterX (T := []) ["L", "R"] W tb h1 rfl h2 rfl ok.room rfl d2iS1 d2iS2 d2iS3 ?_
    intro E' L s₁ f₁
    refine wpAny_execs_cons ?_
    refine wpAny_If ?_
    refine wpAny_isTrue_Compare1 ?_
    walk_at "go"
    walk_at "b"
    refine eq_int ?_
    refine wpAny_truthy_bool ?_
    rename_i s₂ f₂
    by_cases hone : b = a + 1
    · subst hone
      refine iteT (by simp) ?_
      walk_at "go"
      refine Subscript_ ?_
      refine nmF (c := cd) (by rfl) (f₂.base h3) ?_
      walk_at "go"
      walk_at "b"
      obtain ⟨vs, hv, hi⟩ := (f₂.base h6).intl
      obtain ⟨t, ht⟩ := ints_get hi (List.getElem?_eq_getElem (l := ds) (i := a) (by omega))
      refine sbL hv.isList (gLst hv.isList ht (by omega) ?_) [.ref dl, .int a t1] (by rfl)
      have e0 : ds.drop a = ds[a] :: ds.drop (a + 1) := List.drop_eq_getElem_cons (by omega)
      have e : digVal n ((ds.drop a).take (a + 1 - a)) = ds[a] := by
        rw [Nat.add_sub_cancel_left, e0]
        show ds[a] + 2 ^ n * 0 = ds[a]
        omega
      rw [← e]
      exact h _ _ f₂.kp
    · refine iteF (by simp; omega) ?_
      obtain ⟨md, hmd, hm1, hm2⟩ : ∃ md : Nat, ((a : Int) + b) / 2 = md ∧ a < md ∧ md < b := ⟨(a + b) / 2, by omega, by omega, by omega⟩
      walk_at "go"
      walk_at "b"
      refine oShr1 (by assumption) (by omega) ?_
      intro _ _ _
      rw [hmd]
      walk_at "go"
      rename_i s₃ f₃
      refine nmF (c := cn) (by rfl) (f₃.base h5) ?_
      walk_at "b"
      refine oMul f₃ (mulSmall (by omega) (by omega)) ?_
      intro _ _ _
      walk_at "go"
      rename_i s₄ f₄
      have sh0 : 0 ≤ ((md : Int) - a) * n := Int.mul_nonneg (by omega) (by omega)
      have sh1 : (((md : Int) - a) * n).toNat = n * (md - a) := by
        have : ((md : Int) - a) * n = ((n * (md - a) : Nat) : Int) := by rw [Int.natCast_mul, Int.mul_comm]; congr 1; omega
        rw [this, Int.toNat_natCast]
      have sh2 : n * (md - a) ≤ 60 := Nat.le_trans (Nat.mul_le_mul_left n (by omega)) hn
      have sh3 : ((md : Int) - a) * n ≤ 1000000 := by
        have : ((md : Int) - a) * n = ((n * (md - a) : Nat) : Int) := by rw [Int.natCast_mul, Int.mul_comm]; congr 1; omega
        rw [this]; omega
      have sub : ∀ (x y : Nat), y ≤ ds.length → ∀ d ∈ (ds.drop x).take (y - x), 0 ≤ d ∧ d < 2 ^ n := fun x y _ d hd => hds d (List.mem_of_mem_drop (List.mem_of_mem_take hd))
      have bd := digVal_bound n ((ds.drop md).take (b - md)) (sub md b hb)
      have blen : ((ds.drop md).take (b - md)).length = b - md := by rw [List.length_take, List.length_drop]; omega
      have alen : ((ds.drop a).take (md - a)).length = md - a := by rw [List.length_take, List.length_drop]; omega
      rw [blen] at bd
      have b60 : (2 : Int) ^ (n * (b - md)) ≤ 2 ^ 60 := ipow_le (Nat.le_trans (Nat.mul_le_mul_left n (by omega)) hn)
      have okd := ok.deeper (callEnv (fnX (nameOf d2i) qD2i (argsOf d2i) (bodyOf d2i) (scopeOf d2i) [("n", cn), ("inner", ci), ("digits", cd)] .none .none doc pm none (.ref c') ctv) L q)
      refine cF (c := ci) (by rfl) (f₄.base h4) (X.ext f₄.keep).fn ?_
      walk_at "go"
      refine ⟨(X.ext f₄.keep).fn, ?_⟩
      refine ih (by omega) hm2 hb okd f₄.world f₄.tb (X.ext f₄.keep) ?_
      intro _ s₅ k₅
      have f₅ := f₄.call k₅
      walk_at "go"
      walk_at "b"
      refine oShl f₅ sh0 sh3 (by omega) ?_
      intro _ s₆ f₆
      refine cF (c := ci) (by rfl) (f₆.base h4) (X.ext f₆.keep).fn ?_
      walk_at "go"
      refine ⟨(X.ext f₆.keep).fn, ?_⟩
      refine ih (by omega) hm1 (by omega) okd f₆.world f₆.tb (X.ext f₆.keep) ?_
      intro _ s₇ k₇
      have f₇ := f₆.call k₇
      walk_at "b"
      refine oAdd f₇ ?_
      intro _ s₈ f₈
      have e : digVal n ((ds.drop md).take (b - md)) * 2 ^ (((md : Int) - a) * n).toNat + digVal n ((ds.drop a).take (md - a)) = digVal n ((ds.drop a).take (b - a)) := by
        rw [take_drop_split ds (Nat.le_of_lt hm1) (Nat.le_of_lt hm2), digVal_append, alen, sh1, Int.mul_comm, Int.add_comm]
      rw [e]
      exact h _ _ f₈.kp
end

/-! F56b -/
section
theorem qD2i_eq (L : Addr) : qualnameIn (fenvC (stAt 8) 56 55 L) (nameOf d2i) (nameOf d2i) = qD2i := by rfl
theorem f56 {prog : Program} {w : World} {A : Around} {E : Value → Shared → Prop} {s : Shared} {Q : Value → Shared → Prop} {ds : List Int} {n : Nat} {dl : Addr} {tn : Tok}
    (hds : ∀ d ∈ ds, 0 ≤ d ∧ d < 2 ^ n) (hn : n * ds.length ≤ 60) (hn2 : n ≤ 60) (hl : ds.length ≤ 60) (hne : ds ≠ []) (ok : Ok A 64) (W : Wd s.heap) (tb : Tb s.heap) (ha : At s.heap dl (.intl ds))
    (h : ∀ t s', Kp [51] s s' → Q (.int (digVal n ds) t) s') : wpAny (model prog w) A (call (.ref 56) [.ref dl, .int n tn]) Q E s := by
  refine enterC (T := [51]) ["digits", "n"] W tb W.f56 ok.room (fun _ _ _ => rfl) (by decide +kernel) (by decide +kernel) (by decide +kernel) ?_
  intro E' L s₁ f₀
  have f₁ : Fm [51] s L (fun _ => none) [(L + 3, .cell none), (L + 2, .cell (some (.int n tn))), (L + 1, .cell (some (.ref dl)))] s₁ := f₀
  have okd := ok.deeper (fenvC (stAt 8) 56 55 L)
  refine wpAny_execs_cons ?_
  refine nestDef_K rfl rfl rfl ?_
  refine mkFn (name := nameOf d2i) (qual := qD2i) (params := argsOf d2i) (body := bodyOf d2i) (scope := scopeOf d2i) (pos := posOf d2i) (clos := [("n", L + 2), ("inner", L + 3), ("digits", L + 1)]) TabRow.d f₁ (by simp) (by simp [OS.isCode]) rfl rfl rfl ?_
  intro q c' ctv doc pm s₂ hq _ f₂
  refine stC (pre := [_, _]) f₂ (by rfl) ?_
  intro s₃ f₃
  walk_at "go"
  refine wpAny_IfExp ?_
  refine wpAny_isTrue_value ?_
  walk_at "x"
  walk_at "b"
  have ha₃ : At s₃.heap dl (.intl ds) := ha.ext f₃.keep
  obtain ⟨vs, hv, hi⟩ := ha₃.intl
  have hvl := ints_length hi
  refine wpAny_truthy_list hv.isList (by rw [List.size_toArray]; omega) ?_
  have f₄ := f₃.tok (s₃.toks + 1 + 1)
  generalize { s₃ with toks := s₃.toks + 1 + 1 } = s₄ at f₄
  refine iteT ?_ ?_
  · cases vs with
    | nil => cases hi; exact absurd rfl hne
    | cons _ _ => rfl
  have X : ∀ {s' : Shared} {m : Str → Option Value} {nw}, Fm [51] s L m ((q, OS.raw (fnMade (nameOf d2i) qD2i (argsOf d2i) (bodyOf d2i) (scopeOf d2i) [("n", L + 2), ("inner", L + 3), ("digits", L + 1)] doc pm c' ctv)) :: (c', OS.code qD2i) :: (L + 3, OS.cell (some (.ref q))) :: (L + 2, OS.cell (some (.int n tn))) :: (L + 1, OS.cell (some (.ref dl))) :: nw) s' → D2i s'.heap q ds n := by
    intro s' m nw f
    obtain ⟨oc, e1, vs, t, e2, e3⟩ := f.at (a := c') (by walk_at "mem")
    exact ⟨⟨L + 1, L + 2, L + 3, doc, pm, c', ctv, dl, tn, f.rawAt (by walk_at "mem"), ⟨c', oc, vs, t, rfl, e1, e2, e3⟩, f.at (by walk_at "mem"), f.at (by walk_at "mem"), f.at (by walk_at "mem"), ha.ext f.keep⟩⟩
  refine cC (c := L + 3) f₄ (by rfl) (by walk_at "mem") (X f₄).fn ?_
  walk_at "x"
  walk_at "x"
  rename_i t0 s₅ f₅
  walk_at "x"
  refine cB f₅ (by decide) bt_len ?_
  walk_at "go"
  have ha₅ : At s₅.heap dl (.intl ds) := ha.ext f₅.keep
  obtain ⟨vs5, hv5, hi5⟩ := ha₅.intl
  have hvl5 := ints_length hi5
  refine oLenL f₅ hv5.isList (by omega) ?_
  intro tl s₆ f₆
  rw [hvl5]
  walk_at "go"
  refine ⟨(X f₆).fn, ?_⟩
  refine f56i (a := 0) hds hn hn2 hl ds.length (by omega) (List.length_pos_iff.mpr hne) (Nat.le_refl _) (okd.le (by omega)) f₆.world f₆.tb (X f₆) ?_
  intro tr s₇ k₇
  have f₇ := f₆.call k₇
  have e : (ds.drop 0).take (ds.length - 0) = ds := by simp
  rw [e]
  exact h _ _ f₇.kp
end

/-! F49 -/
section
/-- the figures of x, the least first, k of them -/
def digs (n : Nat) : Nat → Int → List Int
  | 0, _ => []
  | k + 1, x => x % 2 ^ n :: digs n k (x / 2 ^ n)
theorem digs_length (n : Nat) : ∀ (k : Nat) (x : Int), (digs n k x).length = k
  | 0, _ => rfl
  | k + 1, x => by show (digs n k _).length + 1 = _; rw [digs_length n k]
theorem p2 (n : Nat) : (0 : Int) < 2 ^ n := Int.pow_pos (by decide)
theorem digs_add (n : Nat) : ∀ (j k : Nat) (x : Int), digs n (j + k) x = digs n j (x % 2 ^ (n * j)) ++ digs n k (x / 2 ^ (n * j))
  | 0, k, x => by simp [digs]
  | j + 1, k, x => by
    have e : j + 1 + k = (j + k) + 1 := by omega
    rw [e]
    show x % 2 ^ n :: digs n (j + k) (x / 2 ^ n) = (x % 2 ^ (n * (j + 1))) % 2 ^ n :: (digs n j ((x % 2 ^ (n * (j + 1))) / 2 ^ n) ++ digs n k (x / 2 ^ (n * (j + 1))))
    have em : (2 : Int) ^ (n * (j + 1)) = 2 ^ n * 2 ^ (n * j) := by rw [Nat.mul_succ, Nat.add_comm, Int.pow_add]
    rw [digs_add n j k, em]
    have h1 : x % (2 ^ n * 2 ^ (n * j)) % 2 ^ n = x % 2 ^ n := Int.emod_emod_of_dvd x ⟨_, rfl⟩
    have h2 : x / 2 ^ n / 2 ^ (n * j) = x / (2 ^ n * 2 ^ (n * j)) := Int.ediv_ediv_of_nonneg (Int.le_of_lt (p2 n))
    have h3 : (x % (2 ^ n * 2 ^ (n * j))) / 2 ^ n = (x / 2 ^ n) % 2 ^ (n * j) := by
      have hp := p2 n
      have hq := p2 (n * j)
      have e1 := Int.emod_add_mul_ediv x (2 ^ n * 2 ^ (n * j))
      have e2 := Int.emod_add_mul_ediv (x / 2 ^ n) (2 ^ (n * j))
      rw [h2] at e2
      rw [Int.emod_def x (2 ^ n * 2 ^ (n * j)), Int.mul_assoc, Int.sub_eq_add_neg, ← Int.mul_neg, Int.add_mul_ediv_left _ _ (Int.ne_of_gt hp)]
      omega
    rw [h1, h3, h2]
theorem digs_one (n : Nat) {x : Int} (h0 : 0 ≤ x) (h1 : x < 2 ^ n) : digs n 1 x = [x] := by
  show [x % 2 ^ n] = [x]
  rw [Int.emod_eq_of_lt h0 h1]
theorem digs_mem (n : Nat) : ∀ (k : Nat) (x : Int), ∀ d ∈ digs n k x, 0 ≤ d ∧ d < 2 ^ n
  | 0, _, d, h => by cases h
  | k + 1, x, d, h => by
    rcases List.mem_cons.mp h with rfl | h
    · exact ⟨Int.emod_nonneg _ (Int.ne_of_gt (p2 n)), Int.emod_lt_of_pos _ (p2 n)⟩
    · exact digs_mem n k _ d h
theorem nat_and_high (x k : Nat) : x &&& (x / 2 ^ k * 2 ^ k) = x / 2 ^ k * 2 ^ k := by
  apply Nat.eq_of_testBit_eq
  intro i
  rw [← Nat.shiftRight_eq_div_pow, ← Nat.shiftLeft_eq, Nat.testBit_and, Nat.testBit_shiftLeft, Nat.testBit_shiftRight]
  by_cases h : k ≤ i
  · have : k + (i - k) = i := by omega
    simp [h, this]
  · simp [h]
theorem xor_low {x : Int} (h0 : 0 ≤ x) (k : Nat) : Builtin.bitXor x (x / 2 ^ k * 2 ^ k) = x % 2 ^ k := by
  rw [bitXor_and]
  have hand : Builtin.bitAnd x (x / 2 ^ k * 2 ^ k) = x / 2 ^ k * 2 ^ k := by
    obtain ⟨a, rfl⟩ := Int.eq_ofNat_of_zero_le h0
    have e1 : ((a : Int) / 2 ^ k * 2 ^ k) = ((a / 2 ^ k * 2 ^ k : Nat) : Int) := by push_cast; rfl
    rw [e1]
    unfold Builtin.bitAnd
    rw [decide_eq_true (by omega : (0 : Int) ≤ (a : Int)), decide_eq_true (by omega : (0 : Int) ≤ ((a / 2 ^ k * 2 ^ k : Nat) : Int))]
    show (((a : Int).toNat &&& ((a / 2 ^ k * 2 ^ k : Nat) : Int).toNat : Nat) : Int) = _
    rw [Int.toNat_natCast, Int.toNat_natCast, nat_and_high]
  rw [hand]
  have := Int.emod_add_mul_ediv x (2 ^ k)
  rw [Int.mul_comm] at this
  omega

/-- all is kept but one list -/
structure Kd (dl : Addr) (s s' : Shared) : Prop where
  same : ∃ h tk, s' = { s with heap := h, toks := tk }
  keep : ∀ b o, b ≠ dl → s.heap.get? b = some o → s'.heap.get? b = some o
  tb : Tb s'.heap
  grow : s.heap.objs.size ≤ s'.heap.objs.size
section
variable {T : List Addr} {s₀ s s' : Shared} {L : Addr} {m : Str → Option Value} {nw pre post : List (Addr × OS)}
theorem Fm.mutated {dl : Addr} {sp sp' : OS} (f : Fm T s₀ L m (pre ++ (dl, sp) :: post) s) (k : Kd dl s s') (h : At s'.heap dl sp') (hc : sp.isCode = false := by rfl) : Fm T s₀ L m (pre ++ (dl, sp') :: post) s' := by
  have hm := f.new (dl, sp) (by simp)
  have nd := f.nd
  rw [List.map_append, List.map_cons, List.nodup_append, List.nodup_cons] at nd
  obtain ⟨oL, es, ep, hL, hLr⟩ := f.ns
  refine ⟨?_, ⟨oL, es, ep, k.keep _ _ (Ne.symm hm.2.1) hL, hLr⟩, fun b o e n => k.keep b o ?_ (f.keep b o e n), f.above, fun p hp => ?_, by simpa using f.nd, k.tb, f.wd⟩
  · obtain ⟨h1, t1, rfl⟩ := f.same
    obtain ⟨h2, t2, rfl⟩ := k.same
    exact ⟨h2, t2, rfl⟩
  · rintro rfl
    rw [hm.2.2 hc] at e
    cases e
  · rcases List.mem_append.mp hp with hq | hq
    · have hx := f.new p (List.mem_append_left _ hq)
      obtain ⟨o, h1, h2⟩ := hx.1
      exact ⟨⟨o, k.keep _ _ (fun e => nd.2.2 _ (List.mem_map_of_mem (f := (·.1)) hq) _ List.mem_cons_self (by simpa using e)) h1, h2⟩, hx.2⟩
    · rcases List.mem_cons.mp hq with rfl | hq
      · exact ⟨h, hm.2.1, fun _ => hm.2.2 hc⟩
      · have hx := f.new p (List.mem_append_right _ (List.mem_cons_of_mem _ hq))
        obtain ⟨o, h1, h2⟩ := hx.1
        exact ⟨⟨o, k.keep _ _ (fun e => nd.2.1.1 (e ▸ List.mem_map_of_mem (f := (·.1)) hq)) h1, h2⟩, hx.2⟩
end
/-- the state with a list hidden -/
def hid (dl : Addr) (s : Shared) : Shared := { s with heap := s.heap.hide dl }
theorem hid_extS {dl : Addr} {s : Shared} {ds : List Int} (h : At s.heap dl (.wint ds)) : ExtS s.heap (hid dl s).heap := by
  intro b o e h1 h2
  show (s.heap.hide dl).get? b = some o
  rw [Heap.hide_ne _ (fun (q : b = dl) => ?_)]
  · exact e
  · subst q
    obtain ⟨o', e1, _, n, vs, e2, _⟩ := h
    rw [e] at e1; cases e1
    exact h2 _ _ e2
theorem Fm.unhid {T : List Addr} {s s' : Shared} {dl L : Addr} {m : Str → Option Value} {nw : List (Addr × OS)} (f : Fm [] (hid dl s) L m nw s') : Kd dl s s' := by
  refine ⟨?_, fun b o hb e => f.keep b o (by show (s.heap.hide dl).get? b = some o; rw [Heap.hide_ne _ hb]; exact e) (by simp), f.tb, ?_⟩
  · obtain ⟨h, t, rfl⟩ := f.same
    exact ⟨h, t, rfl⟩
  · have := f.kp.grow
    rwa [show (hid dl s).heap.objs.size = s.heap.objs.size from Heap.hide_size _ _] at this

def i2dFn (clos : List (Str × Addr)) (doc pm : Value) (c' : Addr) (ctv : Value) : Obj := fnMade (nameOf i2d) qI2d (argsOf i2d) (bodyOf i2d) (scopeOf i2d) clos doc pm c' ctv
structure I2d (h : Heap) (q dl : Addr) (n : Nat) : Prop where
  ex : ∃ ca cn ci doc pm c' ctv tn, h.get? q = some (i2dFn [("n", cn), ("inner", ci), ("a_digits", ca)] doc pm c' ctv) ∧ h.CodeRec (.ref c') qI2d ∧ At h ca (.cell (some (.ref dl))) ∧ At h ci (.cell (some (.ref q))) ∧ At h cn (.cell (some (.int n tn)))
theorem i2dS1 : ((scopeOf i2d).names.all fun x => x.2 != .cell) = true := by decide +kernel
theorem i2dS2 : ([("x" : Str), "L", "R"].all fun x => (scopeOf i2d).names.lookup x == some .local) = true := by decide +kernel
theorem i2dS3 : ((scopeOf i2d).isCoroutine || (scopeOf i2d).isGenerator || (scopeOf i2d).kind != .function) = false := by decide +kernel
theorem At.cellS {h h' : Heap} {c : Addr} {v : Option Value} (x : At h c (.cell v)) (e : ExtS h h') : At h' c (.cell v) := by
  obtain ⟨o, h1, h2⟩ := x
  exact ⟨o, e _ _ h1 ((dull_cell h2).ne_tab _) (fun _ _ q => by rw [show o.data = .cell v from h2] at q; cases q), h2⟩
theorem I2d.extS {h h' : Heap} {q dl : Addr} {n : Nat} (x : I2d h q dl n) (e : ExtS h h') : I2d h' q dl n := by
  obtain ⟨ca, cn, ci, doc, pm, c', ctv, tn, h1, h2, h3, h4, h5⟩ := x.ex
  exact ⟨⟨ca, cn, ci, doc, pm, c', ctv, tn, e _ _ h1 ((dull_func rfl).ne_tab _) (fun _ _ q => by cases q), e.codeRec h2, h3.cellS e, h4.cellS e, h5.cellS e⟩⟩
theorem Ext.toS {T : List Addr} {h h' : Heap} (e : Ext T h h') : ExtS h h' := fun b o x n _ => e b o x fun _ => n
theorem I2d.fn {h : Heap} {q dl : Addr} {n : Nat} (x : I2d h q dl n) : FnAt q h := by
  obtain ⟨ca, cn, ci, doc, pm, c', ctv, tn, h1, _⟩ := x.ex
  exact fnAt_of h1 rfl
/-- x >> k -/
theorem oShrN {prog : Program} {w : World} {A : Around} {E : Value → Shared → Prop} {T : List Addr} {s₀ s : Shared} {L : Addr} {m : Str → Option Value} {nw : List (Addr × OS)} {Q : Value → Shared → Prop} {a b : Int} {t u : Tok} (f : Fm T s₀ L m nw s) (h0 : 0 ≤ a) (hb : 0 ≤ b)
    (h : ∀ t s', Fm T s₀ L m nw s' → Q (.int (a / 2 ^ b.toNat) t) s') : wpAny (model prog w) A (binaryOp .RShift (.int a t) (.int b u)) Q E s := by
  by_cases hc : b ≥ ((Builtin.Int.intBits a : Nat) : Int)
  · refine AutoIntOps.rshift_1 (by omega) hc ?_
    rw [if_neg (by omega)]
    have e : a / 2 ^ b.toNat = 0 := by
      apply Int.ediv_eq_zero_of_lt h0
      obtain ⟨x, rfl⟩ := Int.eq_ofNat_of_zero_le h0
      by_cases hx : x = 0
      · subst hx; exact p2 _
      · have h1 : Builtin.Int.intBits (x : Int) = x.log2 + 1 := by
          unfold Builtin.Int.intBits
          rw [if_neg (by rw [beq_iff_eq]; omega)]
          rfl
        rw [h1] at hc
        have h2 : x < 2 ^ b.toNat := (Nat.log2_lt hx).mp (by omega)
        exact_mod_cast h2
    have g := h s.toks _ (f.tok (s.toks + 1))
    rw [e] at g
    exact g
  · refine AutoIntOps.rshift_2 (by omega) hc ?_
    have e : a.fdiv (2 ^ b.toNat) = a / 2 ^ b.toNat := Int.fdiv_eq_ediv_of_nonneg _ (Int.le_of_lt (p2 _))
    have g := h s.toks _ (f.tok (s.toks + 1))
    rw [← e] at g
    exact g
end

/-! F49b -/
section
theorem ints_set {vs : List Value} {xs : List Int} (h : IntsAre vs xs) : ∀ (k : Nat) (x : Int) (t : Tok), IntsAre (vs.set k (.int x t)) (xs.set k x) := by
  induction h with
  | nil => intro k x t; simpa using IntsAre.nil
  | cons n t h ih =>
    intro k x t'
    cases k with
    | zero => exact .cons x t' h
    | succ k => exact .cons n t (ih k x t')
section
variable {prog : Program} {w : World} {A : Around} {E : Value → Shared → Prop}
theorem oSet {T : List Addr} {s₀ s : Shared} {L dl : Addr} {m : Str → Option Value} {pre post : List (Addr × OS)} {Q : Unit → Shared → Prop} {ds : List Int} {k : Nat} {x : Int} {t u : Tok}
    (f : Fm T s₀ L m (pre ++ (dl, .wint ds) :: post) s) (hk : k < ds.length) (hl : ds.length ≤ 1000000) (h : ∀ s', Fm T s₀ L m (pre ++ (dl, .wint (ds.set k x)) :: post) s' → Q () s') : wpAny (model prog w) A (setItem (.ref dl) (.int k u) (.int x t)) Q E s := by
  obtain ⟨vs, h1, h2⟩ := (f.at (a := dl) (sp := .wint ds) (by simp)).wil
  have hv := ints_length h2
  refine wpAny_setItem_list h1 (by omega) (by omega) (by rw [List.size_toArray]; omega) fun h' hl' hs => h _ (f.change s.toks hs ?_)
  rw [Int.toNat_natCast, List.setIfInBounds_toArray] at hl'
  exact Il.at ⟨_, hl', ints_set h2 k x t⟩
theorem enterXd {s : Shared} {Q : Value → Shared → Prop} {q dl : Addr} {ds : List Int} {o : Obj} {fd : FuncData} {body : List Stmt} {vals : List Value} (ns : List Str) (W : Wd s.heap) (tb : Tb s.heap) (hdl : At s.heap dl (.wint ds)) (ho : s.heap.get? q = some o) (hd : o.data = .func fd) (hcd : s.heap.CodeRec fd.code fd.qualname) (hbody : fd.body = .stmts body) (hroom : A.depth < recursionLimit)
    (hb : bindArgs fd ⟨vals, []⟩ = pure (ns.zip vals)) (hcell : (fd.scope.names.all fun x => x.2 != .cell) = true) (hloc : ns.all (fun x => fd.scope.names.lookup x == some .local) = true)
    (hflags : (fd.scope.isCoroutine || fd.scope.isGenerator || fd.scope.kind != .function) = false)
    (h : ∀ (E' : Value → Shared → Prop) (L : Addr) (s₁ : Shared), Fm [] (hid dl s) L (fun x => (ns.zip vals).reverse.lookup x) [(dl, .wint ds)] s₁ →
      wpAny (model prog w) (A.deeper (callEnv fd L q)) (execs body (callEnv fd L q)) (fun fl s' => Q (match fl with | .ret v => v | _ => .none) s') E' s₁) :
    wpAny (model prog w) A (call (.ref q) vals) Q E s := by
  simp only [Bool.or_eq_false_iff, bne_eq_false_iff_eq] at hflags
  refine wpAny_call (codeAny_call_def hroom ho hd W.nl hcd hbody (BindsTo.of_eq hb) (fun x hx => ?_) (fun x hx => ?_) (fun h₀ hns hk => ?_) hflags.1.1 hflags.1.2 hflags.2)
  · have := List.all_eq_true.mp hcell x hx
    simpa using this
  · have := List.all_eq_true.mp hloc x.1 (List.of_mem_zip hx).1
    simpa using this
  · refine h _ s.heap.objs.size _ ⟨⟨_, _, rfl⟩, hns, fun b o e _ => hk b o (Heap.of_hide e), Nat.le_of_eq (Heap.hide_size _ _), fun p hp => ?_, by simp, tb.keeps hk, W.extS (hid_extS hdl)⟩
    rcases List.mem_cons.mp hp with rfl | hp
    · exact ⟨hdl.keeps hk, Nat.ne_of_lt hdl.lt, fun _ => Heap.hide_self _ _⟩
    · cases hp
end

theorem set_one (ds : List Int) (a : Nat) (x : Int) (h : a < ds.length) : ds.set a x = ds.take a ++ [x] ++ ds.drop (a + 1) := by
  rw [List.set_eq_take_append_cons_drop, if_pos h]
  simp
theorem glue_digs (ds : List Int) (n a md b : Nat) (x : Int) (h1 : a ≤ md) (h2 : md ≤ b) (h3 : b ≤ ds.length) :
    (ds.take a ++ digs n (md - a) (x % 2 ^ (n * (md - a))) ++ ds.drop md).take md ++ digs n (b - md) (x / 2 ^ (n * (md - a))) ++ (ds.take a ++ digs n (md - a) (x % 2 ^ (n * (md - a))) ++ ds.drop md).drop b = ds.take a ++ digs n (b - a) x ++ ds.drop b := by
  have e : b - a = (md - a) + (b - md) := by omega
  rw [e, digs_add]
  have l1 : (ds.take a ++ digs n (md - a) (x % 2 ^ (n * (md - a)))).length = md := by rw [List.length_append, List.length_take, digs_length]; omega
  rw [List.take_left' l1]
  have e2 : (ds.take a ++ digs n (md - a) (x % 2 ^ (n * (md - a))) ++ ds.drop md).drop b = ds.drop b := by
    rw [List.drop_append, List.drop_eq_nil_of_le (by omega), l1, List.nil_append, List.drop_drop]
    congr 1
    omega
  rw [e2]
  simp only [List.append_assoc]

theorem f49i {prog : Program} {w : World} {n : Nat} (hn2 : n ≤ 60) :
    ∀ (k : Nat) {A : Around} {E : Value → Shared → Prop} {s : Shared} {Q : Value → Shared → Prop} {q dl : Addr} {ds : List Int} {x : Int} {a b : Nat} {t0 t1 t2 : Tok}, b - a ≤ k → a < b → b ≤ ds.length → ds.length ≤ 60 → n * ds.length ≤ 60 → 0 ≤ x → x < 2 ^ (n * (b - a)) → Ok A (k + 2) → Wd s.heap → Tb s.heap →
      I2d s.heap q dl n → At s.heap dl (.wint ds) →
      (∀ s', Kd dl s s' → At s'.heap dl (.wint (ds.take a ++ digs n (b - a) x ++ ds.drop b)) → Q .none s') → wpAny (model prog w) A (call (.ref q) [.int x t0, .int a t1, .int b t2]) Q E s := by
  intro k
  induction k with
  | zero => intro A E s Q q dl ds x a b t0 t1 t2 h1 h2; omega
  | succ k ih =>
    intro A E s Q q dl ds x a b t0 t1 t2 hk hab hb hl hnl hx0 hx1 ok W tb X0 hdl h
    have X := X0.extS (hid_extS hdl)
    obtain ⟨ca, cn, ci, doc, pm, c', ctv, tn, h1, h2, h3, h4, h5⟩ := X.ex
    have hq0 : s.heap.get? q = some (i2dFn [("n", cn), ("inner", ci), ("a_digits", ca)] doc pm c' ctv) := Heap.of_hide h1
    have hc0 : s.heap.CodeRec (.ref c') qI2d := by
      obtain ⟨c, o, vs, t, e1, e2, e3⟩ := h2
      exact ⟨c, o, vs, t, e1, Heap.of_hide e2, e3⟩
    refine enterXd ["x", "L", "R"] W tb hdl hq0 rfl hc0 rfl ok.room rfl i2dS1 i2dS2 i2dS3 ?_
    intro E' L s₁ f₁
    refine wpAny_execs_cons ?_
    refine wpAny_If ?_
    refine wpAny_isTrue_Compare1 ?_
    walk_at "go"
    walk_at "b"
    refine eq_int ?_
    refine wpAny_truthy_bool ?_
    rename_i s₂ f₂
    by_cases hone : b = a + 1
    · subst hone
      refine iteT (by simp) ?_
      walk_at "st"
      refine wpAny_Assign_Subscript ?_
      walk_at "x"
      refine nmF (c := ca) (by rfl) (f₂.base h3) ?_
      walk_at "go"
      walk_at "b"
      refine oSet (pre := []) f₂ (by omega) (by omega) ?_
      intro s₃ f₃
      walk_at "go"
      refine wpAny_Return_none ?_
      refine h _ (f₃.unhid (T := [])) ?_
      have e := set_one ds a x (by omega)
      rw [Nat.add_sub_cancel_left, digs_one n hx0 (by simpa using hx1), ← e]
      exact f₃.at List.mem_cons_self
    · refine iteF (by simp; omega) ?_
      obtain ⟨md, hmd, hm1, hm2⟩ : ∃ md : Nat, ((a : Int) + b) / 2 = md ∧ a < md ∧ md < b := ⟨(a + b) / 2, by omega, by omega, by omega⟩
      walk_at "go"
      walk_at "b"
      refine oShr1 (by assumption) (by omega) ?_
      intro _ _ _
      rw [hmd]
      walk_at "go"
      rename_i s₃ f₃
      refine nmF (c := cn) (by rfl) (f₃.base h5) ?_
      walk_at "b"
      refine oMul f₃ (mulSmall (by omega) (by omega)) ?_
      intro _ _ _
      have sh0 : 0 ≤ ((md : Int) - a) * n := Int.mul_nonneg (by omega) (by omega)
      have shn : ((md : Int) - a) * n = ((n * (md - a) : Nat) : Int) := by rw [Int.natCast_mul, Int.mul_comm]; congr 1; omega
      have sh1 : (((md : Int) - a) * n).toNat = n * (md - a) := by rw [shn, Int.toNat_natCast]
      have sh2 : n * (md - a) ≤ 60 := Nat.le_trans (Nat.mul_le_mul_left n (by omega)) hnl
      have sh3 : ((md : Int) - a) * n ≤ 1000000 := by rw [shn]; omega
      have x60 : x < 2 ^ 60 := Int.lt_of_lt_of_le hx1 (ipow_le (Nat.le_trans (Nat.mul_le_mul_left n (by omega)) hnl))
      have up0 : 0 ≤ x / 2 ^ (n * (md - a)) := Int.ediv_nonneg hx0 (Int.le_of_lt (p2 _))
      have up1 : x / 2 ^ (n * (md - a)) ≤ x := Int.ediv_le_self _ hx0
      have up2 : x / 2 ^ (n * (md - a)) < 2 ^ (n * (b - md)) := by
        apply Int.ediv_lt_of_lt_mul (p2 _)
        rw [← Int.pow_add, ← Nat.mul_add]
        have : b - md + (md - a) = b - a := by omega
        rw [this]
        exact hx1
      have lo0 := Int.emod_nonneg x (Int.ne_of_gt (p2 (n * (md - a))))
      have lo1 := Int.emod_lt_of_pos x (p2 (n * (md - a)))
      walk_at "go"
      walk_at "b"
      refine oShrN (by assumption) hx0 sh0 ?_
      intro _ _ _
      rw [sh1]
      walk_at "go"
      walk_at "b"
      refine oShl (by assumption) sh0 sh3 (by omega) ?_
      intro _ _ _
      walk_at "b"
      refine oXor (by assumption) ?_
      intro _ _ _
      rw [sh1, xor_low hx0]
      walk_at "go"
      rename_i s₄ f₄
      have okd := ok.deeper (callEnv (fnX (nameOf i2d) qI2d (argsOf i2d) (bodyOf i2d) (scopeOf i2d) [("n", cn), ("inner", ci), ("a_digits", ca)] .none .none doc pm none (.ref c') ctv) L q)
      refine wpAny_Expr ?_
      refine cF (c := ci) (by rfl) (f₄.base h4) (X.extS f₄.keep.toS).fn ?_
      walk_at "go"
      refine ⟨(X.extS f₄.keep.toS).fn, ?_⟩
      refine ih (by omega) hm1 (by omega) hl hnl lo0 lo1 okd f₄.world f₄.tb (X.extS f₄.keep.toS) (f₄.at List.mem_cons_self) ?_
      intro s₅ k₅ hat₅
      have f₅ := f₄.mutated (pre := []) k₅ hat₅
      have len5 : (ds.take a ++ digs n (md - a) (x % 2 ^ (n * (md - a))) ++ ds.drop md).length = ds.length := by
        rw [List.length_append, List.length_append, List.length_take, digs_length, List.length_drop]; omega
      walk_at "go"
      refine wpAny_Expr ?_
      refine cF (c := ci) (by rfl) (f₅.base h4) (X.extS f₅.keep.toS).fn ?_
      walk_at "go"
      refine ⟨(X.extS f₅.keep.toS).fn, ?_⟩
      refine ih (by omega) hm2 (by rw [len5]; exact hb) (by rw [len5]; exact hl) (by rw [len5]; exact hnl) up0 up2 okd f₅.world f₅.tb (X.extS f₅.keep.toS) (f₅.at List.mem_cons_self) ?_
      intro s₆ k₆ hat₆
      have f₆ := f₅.mutated (pre := []) k₆ hat₆
      walk_at "go"
      refine h _ (f₆.unhid (T := [])) ?_
      rw [← glue_digs ds n a md b x (Nat.le_of_lt hm1) (Nat.le_of_lt hm2) hb]
      exact hat₆
end

/-! F49c -/
section
theorem oBits {prog : Program} {w : World} {A : Around} {E : Value → Shared → Prop} {T : List Addr} {s₀ s : Shared} {L : Addr} {m : Str → Option Value} {nw : List (Addr × OS)} {Q : Value → Shared → Prop} {a : Int} {t : Tok} (f : Fm T s₀ L m nw s)
    (h : ∀ t s', Fm T s₀ L m nw s' → Q (.int (Builtin.Int.intBits a) t) s') : wpAny (model prog w) A (call (.builtin "int.bit_length") [.int a t]) Q E s :=
  call_gives F.slot_int_bit_length (typeIs_int _ _ _) F.entry_int_bit_length (F.args_int_bit_length_1 _) (AutoIntG2.int_bit_length_int_0 a t) (h _ _ (f.tok _))
theorem lt_bits {x : Int} (h : 0 ≤ x) : x < 2 ^ (Builtin.Int.intBits x) := by
  obtain ⟨a, rfl⟩ := Int.eq_ofNat_of_zero_le h
  by_cases ha : a = 0
  · subst ha; exact p2 _
  · have h1 : Builtin.Int.intBits (a : Int) = a.log2 + 1 := by
      unfold Builtin.Int.intBits
      rw [if_neg (by rw [beq_iff_eq]; omega)]
      rfl
    rw [h1]
    have h2 : a < 2 ^ (a.log2 + 1) := (Nat.log2_lt ha).mp (by omega)
    exact_mod_cast h2
/-- how many figures -/
def digN (n : Nat) (x : Int) : Nat := (Builtin.Int.intBits x + n - 1) / n
theorem digN_ge {n : Nat} (hn : 1 ≤ n) (x : Int) : Builtin.Int.intBits x ≤ n * digN n x ∧ n * digN n x ≤ Builtin.Int.intBits x + n - 1 := by
  unfold digN
  have h1 := Nat.div_add_mod (Builtin.Int.intBits x + n - 1) n
  have h2 := Nat.mod_lt (Builtin.Int.intBits x + n - 1) (by omega : 0 < n)
  omega
theorem qI2d_eq (L : Addr) : qualnameIn (fenvC (stAt 7) 49 48 L) (nameOf i2d) (nameOf i2d) = qI2d := by rfl

theorem f49 {prog : Program} {w : World} {A : Around} {E : Value → Shared → Prop} {s : Shared} {Q : Value → Shared → Prop} {n : Nat} {x : Int} {tx tn : Tok}
    (hx : 0 ≤ x) (hn1 : 1 ≤ n) (hn2 : n ≤ 20) (hb : Builtin.Int.intBits x ≤ 40) (ok : Ok A 70) (W : Wd s.heap) (tb : Tb s.heap)
    (h : ∀ l s', Kp [44] s s' → s.heap.objs.size ≤ l → At s'.heap l (.wint (digs n (digN n x) x)) → At s'.heap 44 .tab → Q (.ref l) s') : wpAny (model prog w) A (call (.ref 49) [.int x tx, .int n tn]) Q E s := by
  obtain ⟨hge, hle⟩ := digN_ge hn1 x
  have hk60 : digN n x ≤ 60 := Nat.le_trans (Nat.le_mul_of_pos_left _ hn1) (by omega)
  refine enterC (T := [44]) ["a", "n"] W tb W.f49 ok.room (fun _ _ _ => rfl) (by decide +kernel) (by decide +kernel) (by decide +kernel) ?_
  intro E' L s₁ f₀
  have f₁ : Fm [44] s L (fun y => if y = Str.ofString "a" then some (.int x tx) else none) [(L + 3, .cell none), (L + 2, .cell none), (L + 1, .cell (some (.int n tn)))] s₁ := f₀
  have okd := ok.deeper (fenvC (stAt 7) 49 48 L)
  refine wpAny_execs_cons ?_
  refine wpAny_Assign_Name ?_ (by rfl)
  refine wpAny_BinOp ?_
  refine dL ?_
  walk_at "go"
  rename_i t0 s₂ f₂
  refine nwI f₂ (.cons _ _ .nil) ?_ (by simp)
  intro l0 s₃ hl0 f₃
  walk_at "go"
  refine mC0 F.plainAttrs_int F.slot_int_bit_length F.type_int_bit_length ?_
  refine nmL f₃ (by rfl) ?_
  refine ⟨typeIs_int _ _ _, fun a e => (by cases e), ?_⟩
  refine oBits f₃ ?_
  intro _ s₄ f₄
  walk_at "go"
  walk_at "b"
  refine oDiv (by assumption) (by omega) (by omega) ?_
  intro _ s₅ f₅
  have ek : ((Builtin.Int.intBits x : Int) + n - 1).fdiv n = (digN n x : Int) := by
    rw [Int.fdiv_eq_ediv_of_nonneg _ (by omega)]
    unfold digN
    have : (Builtin.Int.intBits x : Int) + n - 1 = ((Builtin.Int.intBits x + n - 1 : Nat) : Int) := by omega
    rw [this]
    rfl
  rw [ek]
  walk_at "b"
  refine oRepI f₅ (f₅.at (a := l0) (by walk_at "mem")) (by omega) (by omega) ?_
  intro dl s₆ hdl f₆
  rw [Int.toNat_natCast] at f₆
  have hdlS : s.heap.objs.size ≤ dl := Nat.le_trans f₅.kp.grow hdl
  replace f₆ := f₆.drop (pre := [_])
  refine stC (pre := [_, _]) f₆ (by rfl) ?_
  intro s₇ f₇
  walk_at "st"
  refine nestDef_K rfl rfl rfl ?_
  refine mkFn (name := nameOf i2d) (qual := qI2d) (params := argsOf i2d) (body := bodyOf i2d) (scope := scopeOf i2d) (pos := posOf i2d) (clos := [("n", L + 1), ("inner", L + 3), ("a_digits", L + 2)]) TabRow.i f₇ (by simp) (by simp [OS.isCode]) rfl rfl rfl ?_
  intro q c' ctv doc pm s₈ hq hfull f₈₀
  have f₈ := f₈₀.addTab' hfull (by simp)
  simp only [List.cons_append, List.nil_append] at f₈
  refine stC (pre := [_, _, _]) f₈ (by rfl) ?_
  intro s₉ f₉
  walk_at "st"
  refine wpAny_If ?_
  refine wpAny_isTrue_value ?_
  refine nmL f₉ (by rfl) ?_
  refine P.truthy_int ?_
  by_cases hx0 : x = 0
  · subst hx0
    refine iteF (by decide) ?_
    walk_at "go"
    have e : digN n 0 = 0 := by
      unfold digN
      have : Builtin.Int.intBits 0 = 0 := rfl
      rw [this]
      exact Nat.div_eq_of_lt (by omega)
    rw [e] at f₉ h
    exact h _ _ f₉.kp hdlS ((f₉.at (a := dl) (by walk_at "mem")).il).at (f₉.at (by walk_at "mem"))
  · refine iteT (by simpa using hx0) ?_
    have f₁₀ := f₉.respec (pre := [_, _]) ((f₉.at (a := dl) (by walk_at "mem")).il).at
    have X : ∀ {s' : Shared} {m : Str → Option Value} {sp : OS} {nw}, Fm [44] s L m ((q, OS.raw (fnMade (nameOf i2d) qI2d (argsOf i2d) (bodyOf i2d) (scopeOf i2d) [("n", L + 1), ("inner", L + 3), ("a_digits", L + 2)] doc pm c' ctv)) :: (c', OS.code qI2d) :: (dl, sp) :: (L + 3, OS.cell (some (.ref q))) :: (L + 2, OS.cell (some (.ref dl))) :: (L + 1, OS.cell (some (.int n tn))) :: nw) s' → I2d s'.heap q dl n := by
      intro s' m sp nw f
      obtain ⟨oc, e1, vs, t, e2, e3⟩ := f.at (a := c') (by walk_at "mem")
      exact ⟨⟨L + 2, L + 1, L + 3, doc, pm, c', ctv, tn, f.rawAt (by walk_at "mem"), ⟨c', oc, vs, t, rfl, e1, e2, e3⟩, f.at (by walk_at "mem"), f.at (by walk_at "mem"), f.at (by walk_at "mem")⟩⟩
    walk_at "st"
    refine wpAny_Expr ?_
    refine cC (c := L + 3) f₁₀ (by rfl) (by walk_at "mem") (X f₁₀).fn ?_
    walk_at "x"
    refine nmL f₁₀ (by rfl) ?_
    walk_at "go"
    rename_i tz s₁₁ f₁₁
    refine cB f₁₁ (by decide) bt_len ?_
    walk_at "go"
    obtain ⟨vs, hv, hi⟩ := (f₁₁.at (a := dl) (by walk_at "mem")).wil
    have hvl := ints_length hi
    rw [List.length_replicate] at hvl
    refine oLenL f₁₁ hv (by omega) ?_
    intro tl s₁₂ f₁₂
    rw [hvl]
    walk_at "go"
    refine ⟨(X f₁₂).fn, ?_⟩
    have hpos : 0 < digN n x := by
      have : 0 < Builtin.Int.intBits x := by
        unfold Builtin.Int.intBits
        rw [if_neg (by rw [beq_iff_eq]; exact hx0)]
        omega
      rcases Nat.eq_zero_or_pos (digN n x) with e | e
      · rw [e] at hge; omega
      · exact e
    refine f49i (a := 0) (ds := List.replicate (digN n x) 0) (by omega) (digN n x) (by omega) hpos (by rw [List.length_replicate]; omega) (by rw [List.length_replicate]; omega) (by rw [List.length_replicate]; omega) hx (Int.lt_of_lt_of_le (lt_bits hx) (ipow_le (by simpa using hge))) (okd.le (by omega)) f₁₂.world f₁₂.tb (X f₁₂) (f₁₂.at (by walk_at "mem")) ?_
    intro s₁₃ k₁₃ hat
    have e : (List.replicate (digN n x) (0 : Int)).take 0 ++ digs n (digN n x - 0) x ++ (List.replicate (digN n x) (0 : Int)).drop (digN n x) = digs n (digN n x) x := by simp
    rw [e] at hat
    have f₁₃ := f₁₂.mutated (pre := [_, _]) k₁₃ hat
    walk_at "go"
    exact h _ _ f₁₃.kp hdlS (f₁₃.at (by walk_at "mem")) (f₁₃.at (by walk_at "mem"))
end

/-! F63 -/
section
section
variable {prog : Program} {w : World} {A : Around} {E : Value → Shared → Prop} {T : List Addr} {s₀ s : Shared} {L : Addr} {m : Str → Option Value} {nw pre post : List (Addr × OS)} {env : Env} {x : Str}
/-- for x in reversed(xs) -/
theorem forRev {R : Result → Shared → Prop} {E₁ : Value → Shared → Prop} {px : Pos} {body : List Stmt} {a : Addr} {vs : List Value} {oa : Obj} (hh : A.handled = none) (f : Fm T s₀ L m nw s) (ha : s.heap.get? a = some oa) (hl : s.heap.IsList a vs.toArray) (hd : Dull oa)
    (J : Nat → (Str → Option Value) → List (Addr × OS) → Prop) (h0 : J 0 m nw) (hst : s₀.heap.get? a = some oa ∨ ∀ i m₁ nw₁, J i m₁ nw₁ → (a, OS.raw oa) ∈ nw₁)
    (step : ∀ (E' : Value → Shared → Prop) i v I m₁ nw₁ o s₁, i < vs.length → vs[vs.length - 1 - i]? = some v → J i m₁ nw₁ → Fm T s₀ L (upd m₁ x v) ((I, .raw o) :: nw₁) s₁ →
      wpAny (model prog w) A (execs body env) (fun fl s₂ => match fl with
        | .next | .cont => ∃ m₂ nw₂, J (i + 1) m₂ nw₂ ∧ Fm T s₀ L m₂ ((I, .raw o) :: nw₂) s₂
        | .brk => R (.ok .next) s₂
        | .ret v => R (.ok (.ret v)) s₂) E' s₁)
    (hR : ∀ s' m' nw', J vs.length m' nw' → Fm T s₀ L m' nw' s' → R (.ok .next) s')
    (hL : env.locals = L := by rfl) (hk : env.scope.kind = .function := by rfl) (hx : env.kindOf x = some .local := by rfl) :
    wpAny (model prog w) A (call (.type "reversed") [.ref a]) (fun v s₁ => wpAny (model prog w) A (pyIter v) (fun it s₂ => codeAny (model prog w) A (.forLoop (.Name x px) it body [] env) R s₂) E₁ s₁) E s := by
  refine call_reversed_list hl ?_
  have hdi : ∀ i : Int, Dull (revObj a i) := fun i => dull_iter (fun q t e => by simp [rawInt] at e)
  have f₂ := f.alloc (o := revObj a ((vs.toArray.size : Int) - 1)) (sp := .raw _) ⟨rfl, hdi _⟩ rfl
  have hne : a ≠ s.heap.objs.size := Nat.ne_of_lt (Heap.lt_size ha)
  have hit : (s.heap.push (revObj a ((vs.toArray.size : Int) - 1))).IsRevIter s.heap.objs.size a ((vs.toArray.size : Int) - 1) := ⟨_, Heap.get?_push_size _ rfl, rfl, rfl⟩
  refine wpAny_pyIter_revIter hit ?_
  refine forW (Walks.listRev hh _ a hne vs.toArray) ⟨Nat.zero_le _, ?_, hl.push _⟩ (fun i h st => ?_) J f₂ h0 (fun b hb hbI => ?_) (fun E' i v m₁ nw₁ o s₁ hi hv hJ g => ?_) (fun s' m' nw' hJ g => hR s' m' nw' (by simpa using hJ) g) hL hk hx
  · have e : ((vs.toArray.size : Int) - 1 - ((0 : Nat) : Int)) = (vs.toArray.size : Int) - 1 := by omega
    rw [e]
    exact hit
  · obtain ⟨o, ho, hc, hdt⟩ := st.2.1
    refine ⟨o, ho, fun vs' e => ?_⟩
    rw [hdt] at e
    cases e
    exact ⟨by rw [hc]; simp, fun q t e => by simp [rawInt] at e⟩
  · have : b = a := by
      rcases List.mem_cons.mp hb with e | hb
      · exact absurd e hbI
      · simpa using hb
    subst this
    exact ⟨oa, hd, Heap.get?_push_of_some _ ha, hst⟩
  · exact step E' i v _ m₁ nw₁ o s₁ (by simpa using hi) (by simpa using hv) hJ g
/-- xs.reverse() -/
theorem oRev {Q : Value → Shared → Prop} {l : Addr} {xs : List Int} (f : Fm T s₀ L m (pre ++ (l, .intl xs) :: post) s) (hx : xs.length ≤ 1000000) (h : ∀ s', Fm T s₀ L m (pre ++ (l, .intl xs.reverse) :: post) s' → Q .none s') :
    wpAny (model prog w) A (call (.builtin "list.reverse") [.ref l]) Q E s := by
  obtain ⟨vs, h1, h2⟩ := (f.at (a := l) (sp := .intl xs) (by simp)).intl
  have hv := ints_length h2
  obtain ⟨n, ho⟩ := h1.plain
  refine call_meets PySem.F.slot_list_reverse ⟨_, ho, rfl⟩ PySem.F.entry_list_reverse (PySem.F.args_list_reverse_1 _) (PySem.AutoSeq1.list_reverse_list_0 l vs.toArray n (by rw [List.size_toArray, sizeLine_eq]; omega)) ⟨ho, ?_⟩
  refine h _ (f.change s.toks (Heap.SameBut.update ..) ?_)
  refine ⟨_, Heap.get?_update_self _ ho rfl, n, vs.reverse, ?_, ints_reverse h2⟩
  simp [Obj.mapSeq]
/-- divmod of ints -/
theorem oDivmod {Q : Value → Shared → Prop} {a b : Int} {t u : Tok} (f : Fm T s₀ L m nw s) (hb : b ≠ 0) (hs : b.natAbs < 1073741824) (h : ∀ r t1 t2 s', s.heap.objs.size ≤ r → Fm T s₀ L m ((r, .tup [.int (a.fdiv b) t1, .int (a.fmod b) t2]) :: nw) s' → Q (.ref r) s') :
    wpAny (model prog w) A (call (.builtin "divmod") [.int a t, .int b u]) Q E s :=
  divmod_N (fr_all f.ns) (news_all s.heap L) hb (fun h' F N => h _ _ _ _ (Nat.le_refl _) (f.byNewsA _ F N (Nat.le_refl _) ⟨rfl, _, rfl⟩)) (.inl (PyProof.noPylong_small hs))
end

theorem f35 {prog : Program} {w : World} {A : Around} {E : Value → Shared → Prop} {s : Shared} {Q : Value → Shared → Prop} {a b : Int} {n : Nat} {ta tb' tn : Tok}
    (hb : 0 < b) (hb2 : b ≤ 1000) (ha : 0 ≤ a) (hbits : Builtin.Int.intBits a ≤ 1000) (ok : Ok A 3) (W : Wd s.heap) (tb : Tb s.heap)
    (h : ∀ r t1 t2 s', Kp [] s s' → s.heap.objs.size ≤ r → At s'.heap r (.tup [.int (a / b) t1, .int (a % b) t2]) → Q (.ref r) s') : wpAny (model prog w) A (call (.ref 35) [.int a ta, .int b tb', .int n tn]) Q E s := by
  refine enter (T := []) ["a", "b", "n"] W tb W.f35 ok.room (fun _ _ _ => rfl) (by decide +kernel) (by decide +kernel) (by decide +kernel) ?_
  intro E' L s₁ f₁
  refine wpAny_execs_cons ?_
  refine wpAny_If ?_
  refine wpAny_isTrue_Compare1 ?_
  refine wpAny_BinOp ?_
  refine mC0 F.plainAttrs_int F.slot_int_bit_length F.type_int_bit_length ?_
  walk_at "x"
  refine ⟨typeIs_int _ _ _, fun a e => (by cases e), ?_⟩
  refine oBits f₁ ?_
  intro _ s₂ f₂
  walk_at "go"
  rename_i s₃ f₃
  refine nmG f₃.world (by rfl) ?_
  walk_at "b"
  refine le_int ?_
  refine wpAny_truthy_bool ?_
  refine iteT (by rw [decide_eq_true_eq]; omega) ?_
  walk_at "go"
  refine cB f₃ (by decide) bt_divmod ?_
  walk_at "go"
  refine oDivmod f₃ (by omega) (by omega) ?_
  intro r t1 t2 s₄ hr f₄
  rw [Int.fdiv_eq_ediv_of_nonneg _ (by omega), Int.fmod_eq_emod_of_nonneg _ (by omega)] at f₄
  exact h _ _ _ _ f₄.kp (Nat.le_trans f₃.kp.grow hr) (f₄.at List.mem_cons_self)

theorem digVal_digs (n : Nat) : ∀ (k : Nat) (x : Int), 0 ≤ x → x < 2 ^ (n * k) → digVal n (digs n k x) = x
  | 0, x, h0, h1 => by simp at h1; simp [digs, digVal]; omega
  | k + 1, x, h0, h1 => by
    show x % 2 ^ n + 2 ^ n * digVal n (digs n k (x / 2 ^ n)) = x
    rw [digVal_digs n k _ (Int.ediv_nonneg h0 (Int.le_of_lt (p2 n))) ?_]
    · exact Int.emod_add_mul_ediv x (2 ^ n)
    · apply Int.ediv_lt_of_lt_mul (p2 n)
      rw [← Int.pow_add, ← Nat.mul_succ]
      exact h1
/-- a step of the long division -/
theorem div_step {b r q d t V B Dv : Int} (hB : 0 < B) (hb : 0 < b) (hr0 : 0 ≤ r) (hr : r < b) (hd0 : 0 ≤ d) (hd : d < B) (ht : t = r * B + d) (hV : Dv * b + r = V) :
    (t / b + B * Dv) * b + t % b = d + B * V ∧ 0 ≤ t / b ∧ t / b < B ∧ 0 ≤ t % b ∧ t % b < b ∧ 0 ≤ t := by
  have ht0 : 0 ≤ t := by rw [ht]; exact Int.add_nonneg (Int.mul_nonneg hr0 (Int.le_of_lt hB)) hd0
  refine ⟨?_, Int.ediv_nonneg ht0 (Int.le_of_lt hb), ?_, Int.emod_nonneg _ (Int.ne_of_gt hb), Int.emod_lt_of_pos _ hb, ht0⟩
  · have e := Int.emod_add_mul_ediv t b
    have : (t / b + B * Dv) * b + t % b = t + B * (Dv * b) := by
      rw [Int.add_mul, Int.mul_assoc]
      have : t / b * b = b * (t / b) := Int.mul_comm _ _
      omega
    rw [this, ht, ← hV, Int.mul_add]
    have : B * r = r * B := Int.mul_comm _ _
    omega
  · apply Int.ediv_lt_of_lt_mul hb
    have h1 : r * B ≤ (b - 1) * B := Int.mul_le_mul_of_nonneg_right (by omega) (Int.le_of_lt hB)
    rw [Int.sub_mul, Int.one_mul] at h1
    have : B * b = b * B := Int.mul_comm _ _
    omega
end

/-! F63b -/
section
theorem bits_le {a : Int} {k : Nat} (h0 : 0 ≤ a) (h : a < 2 ^ k) (hk : 1 ≤ k) : Builtin.Int.intBits a ≤ k := by
  unfold Builtin.Int.intBits
  split
  · omega
  · rename_i hne
    obtain ⟨x, rfl⟩ := Int.eq_ofNat_of_zero_le h0
    have hz : x ≠ 0 := by intro e; apply hne; rw [beq_iff_eq]; omega
    have h2 : x < 2 ^ k := by exact_mod_cast h
    have := (Nat.log2_lt hz).mpr h2
    show x.log2 + 1 ≤ k
    omega
theorem drop_pred (D : List Int) (i : Nat) (d : Int) (hi : i < D.length) (hd : D[D.length - 1 - i]? = some d) : D.drop (D.length - (i + 1)) = d :: D.drop (D.length - i) := by
  have e : D.length - (i + 1) = D.length - 1 - i := by omega
  obtain ⟨hlt, rfl⟩ := List.getElem?_eq_some_iff.mp hd
  rw [e, List.drop_eq_getElem_cons hlt]
  congr 2
  omega

theorem f63 {prog : Program} {w : World} {A : Around} {E : Value → Shared → Prop} {s : Shared} {Q : Value → Shared → Prop} {a b : Int} {ta tb' : Tok}
    (hb : 2 ≤ b) (hb2 : b ≤ 31) (ha : 1 ≤ a) (ha2 : a ≤ 1000) (ok : Ok A 74) (W : Wd s.heap) (tb : Tb s.heap)
    (h : ∀ r t1 t2 s', Kp [44, 51] s s' → s.heap.objs.size ≤ r → At s'.heap r (.tup [.int (a / b) t1, .int (a % b) t2]) → At s'.heap 44 .tab → Q (.ref r) s') : wpAny (model prog w) A (call (.ref 63) [.int a ta, .int b tb']) Q E s := by
  refine enter (T := [44, 51]) ["a", "b"] W tb W.f63 ok.room (fun _ _ _ => rfl) (by decide +kernel) (by decide +kernel) (by decide +kernel) ?_
  intro E' L s₁ f₁
  have okd := ok.deeper (fenv (stAt 9) 63 62 L)
  have hn5 : Builtin.Int.intBits b ≤ 5 := bits_le (by omega) (by omega) (by decide)
  have hn1 : 1 ≤ Builtin.Int.intBits b := by
    unfold Builtin.Int.intBits
    rw [if_neg (by rw [beq_iff_eq]; omega)]
    omega
  have hab : Builtin.Int.intBits a ≤ 10 := bits_le (by omega) (by omega) (by decide)
  refine wpAny_execs_cons ?_
  walk_at "st"
  refine mC0 F.plainAttrs_int F.slot_int_bit_length F.type_int_bit_length ?_
  walk_at "x"
  refine ⟨typeIs_int _ _ _, fun a e => (by cases e), ?_⟩
  refine oBits f₁ ?_
  generalize hn : Builtin.Int.intBits b = n at hn5 hn1 ⊢
  intro tn s₂ f₂
  walk_at "go"
  rename_i s₃ f₃
  refine cG f₃ (by rfl) f₃.world.f49.at ?_
  walk_at "go"
  refine ⟨f₃.world.f49.at, ?_⟩
  refine f49 (by omega) hn1 (by omega) (by omega) (okd.le (by omega)) f₃.world f₃.tb ?_
  intro dl s₄ k₄ hdl hat hfull
  obtain ⟨hge, hle⟩ := digN_ge hn1 a
  generalize hk : digN n a = k at hge hle hat
  have hDv : digVal n (digs n k a) = a := digVal_digs n k a (by omega) (Int.lt_of_lt_of_le (lt_bits (by omega)) (ipow_le hge))
  have hDl : (digs n k a).length = k := digs_length n k a
  have hDm := digs_mem n k a
  generalize digs n k a = D at hat hDv hDl hDm
  have hk44 : k ≤ 44 := Nat.le_trans (Nat.le_mul_of_pos_left _ hn1) (by omega)
  have f₄ := (f₃.got k₄ hat hdl).addTab' hfull (by simp)
  simp only [List.cons_append, List.nil_append] at f₄
  obtain ⟨oa, hoa, hcls, no, vs, hda, hI⟩ := hat
  have hdu : Dull oa := dull_seq hda
  replace f₄ := f₄.respec (pre := []) (sp' := .raw oa) ⟨oa, hoa, rfl, hdu⟩
  have isl : ∀ {s' : Shared}, s'.heap.get? dl = some oa → s'.heap.IsList dl vs.toArray := fun e => ⟨oa, e, hcls, no, hda⟩
  have hvl := ints_length hI
  walk_at "go"
  rename_i t0 _ _ s₅ f₅
  refine dL (spn ?_)
  refine nwI f₅ .nil ?_ (by simp)
  intro ql s₆ hql f₆
  walk_at "go"
  rename_i s₇ f₇
  refine wpAny_For ?_
  refine cT f₇ (by decide) bt_reversed ?_
  walk_at "go"
  refine forRev okd.h f₇ (f₇.rawAt (a := dl) (by walk_at "mem")) (isl (f₇.rawAt (a := dl) (by walk_at "mem"))) hdu
    (fun i m nw => m "b" = some (.int b tb') ∧ m "n" = some (.int n tn) ∧ m "q_digits" = some (.ref ql) ∧ ∃ (qs : List Int) (r : Int) (t : Tok), m "r" = some (.int r t) ∧ nw = [(ql, .intl qs), (dl, .raw oa), (44, .tab)] ∧ qs.length = i ∧ 0 ≤ r ∧ r < b ∧ (∀ d ∈ qs, 0 ≤ d ∧ d < 2 ^ n) ∧
      digVal n qs.reverse * b + r = digVal n (D.drop (D.length - i)))
    ⟨by walk_at "look", by walk_at "look", by walk_at "look", [], 0, t0, by walk_at "look", rfl, rfl, by omega, by omega, (fun d hd => by cases hd), by simp [digVal]⟩
    (.inr fun i m nw hJ => by obtain ⟨_, _, _, qs, r, t, _, rfl, _⟩ := hJ; walk_at "mem") ?_ ?_
  · rintro E'' i v I m₁ nw₁ o s₈ hi hv ⟨h1, h2, h3, qs, r, t, h4, rfl, hql', hr0, hrb, hqs, hV⟩ f₈
    obtain ⟨d, td, rfl, hd⟩ := ints_get' hI hv
    rw [hvl] at hd hi
    have hdm := hDm d (List.mem_of_getElem? hd)
    have B0 := p2 n
    have B5 : (2 : Int) ^ n ≤ 2 ^ 5 := ipow_le hn5
    obtain ⟨hst, hq0, hq1, hr0', hrb', ht0⟩ := div_step (b := b) (r := r) (q := 0) (d := d) (t := r * 2 ^ n + d) (V := digVal n (D.drop (D.length - i))) (B := 2 ^ n) (Dv := digVal n qs.reverse) B0 (by omega) hr0 hrb hdm.1 hdm.2 rfl hV
    have htb : r * 2 ^ n + d < 2 ^ 20 := by
      have : r * 2 ^ n ≤ 31 * 32 := Int.mul_le_mul (by omega) (by omega) (Int.le_of_lt B0) (by decide)
      omega
    walk_at "st"
    refine Assign_Tuple ?_
    refine cG f₈ (by rfl) f₈.world.f35.at ?_
    walk_at "x"
    walk_at "x"
    walk_at "x"
    walk_at "x"
    walk_at "x"
    walk_at "b"
    refine oShl f₈ (by omega) (by omega) (by omega) ?_
    intro _ s₉ f₉
    rw [Int.toNat_natCast]
    walk_at "go"
    rename_i tz s₁₀ f₁₀
    refine ⟨f₁₀.world.f35.at, ?_⟩
    refine f35 (by omega) (by omega) ht0 (Nat.le_trans (bits_le ht0 htb (by decide)) (by decide)) (okd.le (by omega)) f₁₀.world f₁₀.tb ?_
    intro rt tq tr s₁₁ k₁₁ hrt hatt
    have f₁₁ := f₁₀.call k₁₁
    refine unp2 okd.h f₁₁ hatt ?_
    intro s₁₂ f₁₂
    walk_at "st"
    obtain ⟨vq, hvq, _⟩ := (f₁₂.at (a := ql) (by walk_at "mem")).intl
    refine stApp f₁₂ (by walk_at "look") hvq ?_
    walk_at "x"
    walk_at "b"
    refine apI (pre := [_]) f₁₂ ?_ (by omega)
    intro s₁₃ f₁₃
    walk_at "go"
    refine ⟨_, _, ⟨by walk_at "look", by walk_at "look", by walk_at "look", qs ++ [(r * 2 ^ n + d) / b], (r * 2 ^ n + d) % b, tr, by walk_at "look", rfl, by simp [hql'], hr0', hrb', ?_, ?_⟩, f₁₃⟩
    · intro y hy
      rcases List.mem_append.mp hy with hy | hy
      · exact hqs y hy
      · rw [List.mem_singleton.mp hy]; exact ⟨hq0, hq1⟩
    · rw [List.reverse_append, drop_pred D i d hi hd]
      exact hst
  · rintro s₈ m₈ nw₈ ⟨h1, h2, h3, qs, r, t, h4, rfl, hql', hr0, hrb, hqs, hV⟩ f₈
    rw [hvl, Nat.sub_self, List.drop_zero, hDv] at hV
    rw [hvl, hDl] at hql'
    walk_at "st"
    refine wpAny_Expr ?_
    obtain ⟨vq, hvq, _⟩ := (f₈.at (a := ql) (by walk_at "mem")).intl
    refine mC0 F.plainAttrs_list F.slot_list_reverse F.type_list_reverse ?_
    walk_at "x"
    refine ⟨hvq.method.1, hvq.method.2, ?_⟩
    refine oRev (pre := []) f₈ (by omega) ?_
    intro s₉ f₉
    walk_at "go"
    refine cG f₉ (by rfl) f₉.world.f56.at ?_
    walk_at "go"
    refine ⟨f₉.world.f56.at, ?_⟩
    have hk0 : 1 ≤ k := by
      rcases Nat.eq_zero_or_pos k with e | e
      · subst e
        have : 0 < Builtin.Int.intBits a := by
          unfold Builtin.Int.intBits
          rw [if_neg (by rw [beq_iff_eq]; omega)]
          omega
        omega
      · exact e
    refine f56 (fun d hd => hqs d (List.mem_reverse.mp hd)) (by rw [List.length_reverse, hql']; omega) (by omega) (by rw [List.length_reverse]; omega) (by intro e; have := congrArg List.length e; rw [List.length_reverse, hql'] at this; simp at this; omega) (okd.le (by omega)) f₉.world f₉.tb (f₉.at List.mem_cons_self) ?_
    intro tq s₁₀ k₁₀
    have f₁₀ := f₉.call k₁₀
    walk_at "go"
    refine dT ?_
    walk_at "go"
    rename_i s₁₁ f₁₁
    refine nwT f₁₁ ?_ (by simp)
    intro rt s₁₂ hrt f₁₂
    have eq : digVal n qs.reverse = a / b := by
      rw [← hV, Int.add_comm, Int.add_mul_ediv_right _ _ (by omega : b ≠ 0), Int.ediv_eq_zero_of_lt hr0 hrb, Int.zero_add]
    have er : r = a % b := by
      rw [← hV, Int.add_comm, Int.add_mul_emod_self_right, Int.emod_eq_of_lt hr0 hrb]
    rw [eq, er] at f₁₂
    exact h _ _ _ _ f₁₂.kp (Nat.le_trans f₁₁.kp.grow hrt) (f₁₂.at List.mem_cons_self) (f₁₂.at (by walk_at "mem"))

theorem f70 {prog : Program} {w : World} {A : Around} {E : Value → Shared → Prop} {s : Shared} {Q : Value → Shared → Prop} {a b : Int} {ta tb' : Tok}
    (hb : 2 ≤ b) (hb2 : b ≤ 31) (ha : 1 ≤ a) (ha2 : a ≤ 1000) (ok : Ok A 75) (W : Wd s.heap) (tb : Tb s.heap)
    (h : ∀ r t1 t2 s', Kp [44, 51] s s' → s.heap.objs.size ≤ r → At s'.heap r (.tup [.int (a / b) t1, .int (a % b) t2]) → At s'.heap 44 .tab → Q (.ref r) s') : wpAny (model prog w) A (call (.ref 70) [.int a ta, .int b tb']) Q E s := by
  refine enter (T := [44, 51]) ["a", "b"] W tb W.f70 ok.room (fun _ _ _ => rfl) (by decide +kernel) (by decide +kernel) (by decide +kernel) ?_
  intro E' L s₁ f₁
  have okd := ok.deeper (fenv (stAt 10) 70 69 L)
  refine wpAny_execs_cons ?_
  refine wpAny_If ?_
  refine wpAny_isTrue_Compare1 ?_
  walk_at "go"
  walk_at "b"
  refine eq_int ?_
  refine wpAny_truthy_bool ?_
  refine iteF (by rw [beq_eq_false_iff_ne]; omega) ?_
  walk_at "st"
  refine wpAny_If ?_
  refine wpAny_isTrue_Compare1 ?_
  walk_at "go"
  walk_at "b"
  refine lt_int ?_
  refine wpAny_truthy_bool ?_
  refine iteF (by rw [decide_eq_false_iff_not]; omega) ?_
  walk_at "st"
  refine wpAny_If ?_
  refine wpAny_isTrue_Compare1 ?_
  walk_at "go"
  walk_at "b"
  refine lt_int ?_
  refine wpAny_truthy_bool ?_
  refine iteF (by rw [decide_eq_false_iff_not]; omega) ?_
  walk_at "go"
  rename_i s₂ f₂
  refine cG f₂ (by rfl) f₂.world.f63.at ?_
  walk_at "go"
  refine ⟨f₂.world.f63.at, ?_⟩
  refine f63 hb hb2 ha ha2 (okd.le (by omega)) f₂.world f₂.tb ?_
  intro r t1 t2 s₃ k₃ hr hat hfull
  exact h _ _ _ _ (f₂.call k₃).kp (Nat.le_trans f₂.kp.grow hr) hat hfull
end

/-! F84 -/
section
/-- the figures of 1 / d -/
def figLoop (d b : Int) : Nat → Int → List Int
  | 0, _ => []
  | k + 1, r => if r = 1 then [] else (b * max r 1) / d :: figLoop d b k ((b * max r 1) % d)
theorem figLoop_length (d b : Int) : ∀ (k : Nat) (r : Int), (figLoop d b k r).length ≤ k
  | 0, _ => Nat.le_refl _
  | k + 1, r => by
    unfold figLoop
    split
    · simp
    · simp only [List.length_cons]; have := figLoop_length d b k ((b * max r 1) % d); omega
theorem oMax {prog : Program} {w : World} {A : Around} {E : Value → Shared → Prop} {T : List Addr} {s₀ s : Shared} {L : Addr} {m : Str → Option Value} {nw : List (Addr × OS)} {Q : Value → Shared → Prop} {a b : Int} {t u : Tok} (hh : A.handled = none) (f : Fm T s₀ L m nw s)
    (h : ∀ t s', Fm T s₀ L m nw s' → Q (.int (max a b) t) s') : wpAny (model prog w) A (call (.builtin "max") [.int a t, .int b u]) Q E s := by
  refine max_two_N hh (fr_all f.ns) (news_all s.heap L) fun h' tk F N => ?_
  have e : (if b > a then b else a) = max a b := by split <;> omega
  rw [e]
  exact h _ _ (f.byNews tk F N)

theorem f84 {prog : Program} {w : World} {A : Around} {E : Value → Shared → Prop} {s : Shared} {Q : Value → Shared → Prop} {d : Nat} {b : Int} {t1 t2 : Tok}
    (hd : 2 ≤ d) (hd2 : d ≤ 31) (hb : 1 ≤ b) (hb2 : b ≤ 4) (ok : Ok A 78) (W : Wd s.heap) (tb : Tb s.heap)
    (h : ∀ l s', Kp [44, 51] s s' → s.heap.objs.size ≤ l → At s'.heap l (.intl (figLoop d b d 0)) → At s'.heap 44 .tab → Q (.ref l) s') :
    wpAny (model prog w) A (call (.ref 84) [.int d t1, .int b t2]) Q E s := by
  refine enter (T := [44, 51]) ["divisor", "base"] W tb W.f84 ok.room (fun _ _ _ => rfl) (by decide +kernel) (by decide +kernel) (by decide +kernel) ?_
  intro E' L s₁ f₁
  have okd := ok.deeper (fenv (stAt 15) 84 83 L)
  refine wpAny_execs_cons ?_
  walk_at "st"
  refine dL (spn ?_)
  refine nwI f₁ .nil ?_ (by simp)
  intro l s₂ hl f₂
  walk_at "go"
  rename_i t0 _ _ s₃ f₃
  refine wpAny_While ?_
  refine codeAny_whileLoop (fun n s' => ∃ (m : Str → Option Value) (fs : List Int) (r : Int) (t : Tok) (tl : List (Addr × OS)), n = d - fs.length ∧ fs.length ≤ d ∧ 0 ≤ r ∧ r < d ∧ m "divisor" = some (.int d t1) ∧ m "base" = some (.int b t2) ∧ m "figures" = some (.ref l) ∧ m "rest" = some (.int r t) ∧
      fs ++ figLoop d b (d - fs.length) r = figLoop d b d 0 ∧ ((tl = [] ∧ fs = [] ∧ r = 0) ∨ tl = [(44, .tab)]) ∧ Fm [44, 51] s L m ((l, .intl fs) :: tl) s') ?_ d ⟨_, [], 0, t0, [], rfl, by simp, by omega, by omega, by walk_at "look", by walk_at "look", by walk_at "look", by walk_at "look", rfl, .inl ⟨rfl, rfl, rfl⟩, f₃⟩
  rintro n s₄ ⟨m, fs, r, t, tl, rfl, hfs, hr0, hrd, h1, h2, h3, h4, hF, htl, f₄⟩
  have fin : ∀ {s' : Shared}, Fm [44, 51] s L m ((l, .intl fs) :: tl) s' → tl = [(44, .tab)] → figLoop d b (d - fs.length) r = [] → Q (.ref l) s' := by
    intro s' f e' e
    subst e'
    rw [e, List.append_nil] at hF
    rw [hF] at f
    exact h _ _ f.kp (Nat.le_trans f₁.kp.grow hl) (f.at List.mem_cons_self) (f.at (by walk_at "mem"))
  refine wpAny_isTrue_BoolOp ?_
  refine wpAny_allTrue_And_cons ?_
  refine wpAny_isTrue_Compare1 ?_
  walk_at "go"
  walk_at "b"
  refine ne_int ?_
  refine wpAny_truthy_bool ?_
  rename_i s₅ f₅
  by_cases hr1 : r = 1
  · subst hr1
    refine iteF (by decide) ?_
    refine iteF rfl ?_
    walk_at "go"
    refine fin f₅ (htl.resolve_left fun ⟨_, _, e⟩ => by omega) ?_
    cases d - fs.length with
    | zero => rfl
    | succ k => exact if_pos rfl
  · refine iteT (by simpa using hr1) ?_
    refine wpAny_allTrue_And_cons ?_
    refine wpAny_isTrue_Compare1 ?_
    refine cB f₅ (by decide) bt_len ?_
    walk_at "go"
    obtain ⟨vs, hv, hi⟩ := (f₅.at (a := l) List.mem_cons_self).intl
    have hvl := ints_length hi
    refine oLenL f₅ hv.isList (by omega) ?_
    intro _ s₆ f₆
    rw [hvl]
    walk_at "go"
    walk_at "b"
    refine lt_int ?_
    refine wpAny_truthy_bool ?_
    by_cases hlt : fs.length < d
    · refine iteT (by rw [decide_eq_true_eq]; omega) ?_
      refine wpAny_allTrue_And_nil ?_
      refine iteT rfl ?_
      walk_at "st"
      refine Assign_Tuple ?_
      refine cG f₆ (by rfl) f₆.world.f70.at ?_
      walk_at "x"
      walk_at "x"
      walk_at "x"
      refine cB f₆ (by decide) bt_max ?_
      walk_at "go"
      walk_at "b"
      refine oMax okd.h (by assumption) ?_
      intro _ s₇ f₇
      have hm1 : 1 ≤ max r 1 := by omega
      have hm2 : max r 1 ≤ 31 := by omega
      have hp1 : 1 ≤ b * max r 1 := by
        have : 1 * 1 ≤ b * max r 1 := Int.mul_le_mul hb hm1 (by decide) (by omega)
        omega
      have hp2 : b * max r 1 ≤ 1000 := by
        have : b * max r 1 ≤ 4 * 31 := Int.mul_le_mul hb2 hm2 (by omega) (by decide)
        omega
      walk_at "b"
      refine oMul f₇ (mulSmall (by omega) (by omega)) ?_
      intro _ s₈ f₈
      walk_at "go"
      refine ⟨f₈.world.f70.at, ?_⟩
      refine f70 (by omega) (by omega) hp1 hp2 (okd.le (by omega)) f₈.world f₈.tb ?_
      intro rt tq tr s₉ k₉ hrt hat hfull
      have f₉ := ((f₈.sub (nw' := [(l, .intl fs)]) (by simp)).call k₉).addTab' hfull (by simp)
      simp only [List.cons_append, List.nil_append] at f₉
      refine unp2 okd.h f₉ hat ?_
      intro s₁₀ f₁₀
      walk_at "st"
      obtain ⟨vq, hvq, _⟩ := (f₁₀.at (a := l) (by walk_at "mem")).intl
      refine stApp f₁₀ (by walk_at "look") hvq ?_
      walk_at "x"
      walk_at "b"
      refine apI (pre := []) f₁₀ ?_ (by omega)
      intro s₁₁ f₁₁
      walk_at "go"
      refine ⟨d - (fs ++ [(b * max r 1) / d]).length, by rw [List.length_append]; simp; omega, _, fs ++ [(b * max r 1) / d], (b * max r 1) % d, tr, _, rfl, by rw [List.length_append]; simp; omega, Int.emod_nonneg _ (by omega), Int.emod_lt_of_pos _ (by omega), by walk_at "look", by walk_at "look", by walk_at "look", by walk_at "look", ?_, .inr rfl, f₁₁⟩
      rw [← hF, List.append_assoc, List.length_append]
      congr 1
      have e : d - fs.length = (d - (fs.length + [(b * max r 1) / (d : Int)].length)) + 1 := by simp; omega
      rw [e]
      show [(b * max r 1) / (d : Int)] ++ _ = if r = 1 then [] else _
      rw [if_neg hr1]
      rfl
    · refine iteF (by rw [decide_eq_false_iff_not]; omega) ?_
      refine iteF rfl ?_
      walk_at "go"
      refine fin (by assumption) (htl.resolve_left fun ⟨_, e, _⟩ => hlt (by rw [e]; simp; omega)) ?_
      have e : d - fs.length = 0 := by omega
      rw [e]
      rfl
end

/-! F89 -/
section
theorem digs_zero (n : Nat) : ∀ k : Nat, digs n k 0 = List.replicate k 0
  | 0 => rfl
  | k + 1 => by
    show (0 : Int) % 2 ^ n :: digs n k (0 / 2 ^ n) = _
    rw [Int.zero_emod, Int.zero_ediv, digs_zero n k, List.replicate_succ]
theorem digs_pad (n a : Nat) {x : Int} {k : Nat} (h0 : 0 ≤ x) (h : x < 2 ^ (n * a)) (hk : a ≤ k) : digs n a x ++ List.replicate (k - a) 0 = digs n k x := by
  obtain ⟨j, rfl⟩ := Nat.exists_eq_add_of_le hk
  rw [digs_add, Int.emod_eq_of_lt h0 h, Int.ediv_eq_zero_of_lt h0 h, digs_zero]
  simp
def txtOf (n size : Nat) (sg : List Nat) (x : Int) : List Nat := (digs n size x).reverse.map fun d => sg.getD d.toNat 0
theorem txtOf_length (n size : Nat) (sg : List Nat) (x : Int) : (txtOf n size sg x).length = size := by unfold txtOf; rw [List.length_map, List.length_reverse, digs_length]
theorem join_signs : ∀ l : List Nat, Str.join (S []) (l.map fun c => S [c]) = S l
  | [] => rfl
  | [c] => rfl
  | c :: d :: r => by
    show S [c] ++ S [] ++ Str.join (S []) ((d :: r).map fun c => S [c]) = _
    rw [join_signs (d :: r), S_app, S_app]
    rfl
theorem empt : (Str.ofString "" : Str) = S [] := by decide +kernel
theorem paired_strs {sg : List Nat} {xs : List Int} {ys : List Value} (h : Paired (fun v y => ∃ t, y = Value.str (S [sg.getD v.toNat 0]) t) xs ys) : StrsAre ys (xs.map fun d => S [sg.getD d.toNat 0]) := by
  induction h with
  | nil => exact .nil
  | cons a b ih => obtain ⟨t, rfl⟩ := a; exact .cons _ _ ih
theorem sum_ones : ∀ l : List Nat, ((l.map fun c => S [c]).map (·.length)).sum = l.length
  | [] => rfl
  | c :: r => by rw [List.map_cons, List.map_cons, List.sum_cons, sum_ones r]; show 1 + r.length = r.length + 1; omega

theorem f89 {prog : Program} {w : World} {A : Around} {E : Value → Shared → Prop} {s : Shared} {Q : Value → Shared → Prop} {x : Int} {n size : Nat} {sg : List Nat} {t1 t2 t3 t4 : Tok}
    (hx : 0 ≤ x) (hn1 : 1 ≤ n) (hn2 : n ≤ 2) (hsz : n * size ≤ 30) (hs1 : 1 ≤ size) (hx2 : x < 2 ^ (n * size)) (hsg : sg.length = 2 ^ n) (ok : Ok A 72) (W : Wd s.heap) (tb : Tb s.heap)
    (h : ∀ t s', Kp [44] s s' → Q (.str (S (txtOf n size sg x)) t) s') :
    wpAny (model prog w) A (call (.ref 89) [.int x t1, .int n t2, .int size t3, .str (S sg) t4]) Q E s := by
  have hbits : Builtin.Int.intBits x ≤ n * size := bits_le hx hx2 (Nat.le_trans hs1 (Nat.le_mul_of_pos_left _ hn1))
  have hsize : size ≤ 30 := Nat.le_trans (Nat.le_mul_of_pos_left _ hn1) hsz
  have hsg4 : sg.length ≤ 4 := by rw [hsg]; exact Nat.pow_le_pow_right (by decide) hn2
  obtain ⟨hge, hle⟩ := digN_ge hn1 x
  have hdn : digN n x ≤ size := by
    have h1 : n * digN n x < n * (size + 1) := by rw [Nat.mul_succ]; omega
    exact Nat.lt_succ_iff.mp (Nat.lt_of_mul_lt_mul_left h1)
  refine enterC (T := [44]) ["number", "bits", "size", "signs"] W tb W.f89 ok.room (fun _ _ _ => rfl) (by decide +kernel) (by decide +kernel) (by decide +kernel) ?_
  intro E' L s₁ f₀
  have okd := ok.deeper (fenvC (stAt 16) 89 88 L)
  have f₁ : Fm [44] s L (upd (upd (upd (fun _ => none) "number" (.int x t1)) "bits" (.int n t2)) "size" (.int size t3)) [(L + 1, .cell (some (.str (S sg) t4)))] s₁ := f₀
  refine wpAny_execs_cons ?_
  walk_at "st"
  refine cG f₁ (by rfl) f₁.world.f49.at ?_
  walk_at "go"
  refine ⟨f₁.world.f49.at, ?_⟩
  refine f49 hx hn1 (by omega) (by omega) (okd.le (by omega)) f₁.world f₁.tb ?_
  intro l s₂ k₂ hl hat _
  have f₂ := f₁.got k₂ hat hl
  walk_at "go"
  refine dL ?_
  walk_at "go"
  rename_i f₃
  refine nwI f₃ (.cons _ _ .nil) ?_ (by simp)
  intro l0 s₄ hl0 f₄
  walk_at "go"
  refine cB f₄ (by decide) bt_len ?_
  walk_at "go"
  obtain ⟨vs, hv, hi⟩ := (f₄.at (a := l) (by walk_at "mem")).wil
  have hvl := ints_length hi
  rw [digs_length] at hvl
  refine oLenL f₄ hv (by omega) ?_
  intro _ s₅ f₅
  rw [hvl]
  walk_at "go"
  walk_at "b"
  rename_i f₆
  refine oRepI f₆ (f₆.at (a := l0) (by walk_at "mem")) (by omega) (by omega) ?_
  intro l1 s₇ hl1 f₇
  have e1 : ((size : Int) - (digN n x : Nat)).toNat = size - digN n x := by omega
  rw [e1] at f₇
  walk_at "b"
  refine oCatI f₇ (f₇.at (a := l) (by walk_at "mem")).wil (f₇.at (a := l1) (by walk_at "mem")).il (by rw [digs_length, List.length_replicate]; omega) ?_
  intro l2 s₈ hl2 f₈
  rw [digs_pad n _ hx (Int.lt_of_lt_of_le (lt_bits hx) (ipow_le hge)) hdn] at f₈
  walk_at "go"
  rename_i s₉ f₉
  refine mC F.plainAttrs_str F.slot_str_join F.type_str_join ?_
  walk_at "x"
  rename_i te s₁₀ f₁₀
  refine ⟨typeIs_str _ _ _, fun a e => (by cases e), ?_⟩
  walk_at "x"
  refine lcI (cl := [("signs", L + 1)]) (fun _ => true) (fun v y => ∃ t, y = Value.str (S [sg.getD v.toNat 0]) t) okd.h (by rfl) (by decide +kernel) (by rfl) (by decide +kernel) (by rfl) ?_
  refine Subscript_ ?_
  walk_at "x"
  refine wpAny_Slice ?_
  refine wpAny_evalPart_none ?_
  refine wpAny_evalPart_none ?_
  refine wpAny_evalPart_some ?_
  refine wpAny_UnaryOp ?_
  walk_at "x"
  walk_at "b"
  refine oNeg (by assumption) ?_
  intro _ s₁₁ f₁₁
  refine slE f₁₁ ?_
  intro sl s₁₂ f₁₂ hsl _
  obtain ⟨vs2, hv2, hi2⟩ := (f₁₂.at (a := l2) (by walk_at "mem")).il
  have hvl2 := ints_length hi2
  rw [digs_length] at hvl2
  refine sbL hv2 ?_ [.ref l2, .ref sl] (by rfl)
  refine gLstRev f₁₂ hv2 hi2 hsl (by omega) ?_
  intro l3 s₁₃ hl3 f₁₃
  have hmem : ∀ d ∈ (digs n size x).reverse, 0 ≤ d ∧ d < 2 ^ n := fun d hd => digs_mem n size x d (List.mem_reverse.mp hd)
  refine ⟨_, _, _, _, _, l3, (digs n size x).reverse, rfl, f₁₃, (f₁₃.at (by walk_at "mem")).il, by rw [List.length_reverse, digs_length]; omega, by simp, ?_, ?_, ?_⟩
  · intro C i v t s₃ m₃ E'' hv hc hm
    exact qNone ⟨rfl, hc.cq.k⟩
  · intro C i v t s₃ m₃ E'' hv _ hc hm
    have q := hc.cq
    obtain ⟨hv0, hv1⟩ := hmem v (List.mem_of_getElem? hv)
    obtain ⟨j, rfl⟩ := Int.eq_ofNat_of_zero_le hv0
    have hj : j < sg.length := by rw [hsg]; exact_mod_cast hv1
    refine Subscript_ ?_
    refine qC (c := L + 1) q (by rfl) (f₁₃.at (by walk_at "mem")) ?_
    refine qL q hm ?_
    have hgj : sg[j]? = some (sg.getD j 0) := by rw [List.getD_eq_getElem?_getD]; rw [List.getElem?_eq_getElem hj]; rfl
    refine sbS (qS q hgj (by omega) ?_) [.str (S sg) t4, .int j t] (by rfl)
    intro t' s' q'
    exact ⟨⟨t', rfl⟩, q'.k⟩
  · intro D ys s₁₄ f₁₄ hp
    rw [List.filter_eq_self.mpr (fun _ _ => rfl)] at hp
    have hstr := paired_strs hp
    walk_at "go"
    have f₁₅ := f₁₄.respec (pre := []) (sp' := .strl _) ((f₁₄.at List.mem_cons_self).to_strl hstr)
    have e2 : ((digs n size x).reverse.map fun d => S [sg.getD d.toNat 0]) = (txtOf n size sg x).map fun c => S [c] := by unfold txtOf; rw [List.map_map]; rfl
    rw [empt]
    refine oJoin f₁₅ (f₁₅.at List.mem_cons_self) ?_ ?_
    · rw [e2, sum_ones, txtOf_length, List.length_map, txtOf_length]
      show size + size * 0 ≤ _
      omega
    · intro t' s₁₆ f₁₆
      have e3 : Txt.join (S []) ((digs n size x).reverse.map fun d => S [sg.getD d.toNat 0]) = S (txtOf n size sg x) := by
        rw [e2]
        show PySem.Builtin.Str.glued _ _ = _
        rw [StrLaws.glued_eq_join, join_signs]
      rw [e3]
      exact h _ _ f₁₆.kp
end

/-! F103 -/
section
def shnFn (clos : List (Str × Addr)) (doc pm : Value) (c' : Addr) (ctv : Value) : Obj := fnMade (nameOf shn) qShn (argsOf shn) (bodyOf shn) (scopeOf shn) clos doc pm c' ctv
structure Shn (h : Heap) (q tx : Addr) (k : Nat) (g : List Nat) : Prop where
  ex : ∃ ct cf cw doc pm c' ctv tf tw, h.get? q = some (shnFn [("wheel", cw), ("texts", ct), ("front", cf)] doc pm c' ctv) ∧ h.CodeRec (.ref c') qShn ∧ At h ct (.cell (some (.ref tx))) ∧ At h cf (.cell (some (.int k tf))) ∧ At h cw (.cell (some (.str (S g) tw)))
theorem Shn.ext {T : List Addr} {h h' : Heap} {q tx : Addr} {k : Nat} {g : List Nat} (x : Shn h q tx k g) (e : Ext T h h') : Shn h' q tx k g := by
  obtain ⟨ct, cf, cw, doc, pm, c', ctv, tf, tw, h1, h2, h3, h4, h5⟩ := x.ex
  exact ⟨⟨ct, cf, cw, doc, pm, c', ctv, tf, tw, e.dull h1 (dull_func rfl), e.codeRec h2, h3.ext e, h4.ext e, h5.ext e⟩⟩
theorem Shn.fn {h : Heap} {q tx : Addr} {k : Nat} {g : List Nat} (x : Shn h q tx k g) : FnAt q h := by
  obtain ⟨ct, cf, cw, doc, pm, c', ctv, tf, tw, h1, _⟩ := x.ex
  exact fnAt_of h1 rfl
theorem shnS1 : ((scopeOf shn).names.all fun x => x.2 != .cell) = true := by decide +kernel
theorem shnS2 : ([("number" : Str)].all fun x => (scopeOf shn).names.lookup x == some .local) = true := by decide +kernel
theorem shnS3 : ((scopeOf shn).isCoroutine || (scopeOf shn).isGenerator || (scopeOf shn).kind != .function) = false := by decide +kernel
/-- is the front of a text on the wheel? -/
def onWheel (tl : List (List Nat)) (k : Nat) (g : List Nat) (x : Int) : Bool := Txt.contains (S g) (S ((tl.getD x.toNat []).take k))
theorem strs_get_list {vs : List Value} {tl : List (List Nat)} (h : StrsAre vs (tl.map S)) {i : Nat} (hi : i < tl.length) : ∃ t, vs[i]? = some (.str (S (tl.getD i [])) t) := by
  refine strs_get h ?_
  rw [List.getElem?_map, List.getElem?_eq_getElem hi, List.getD_eq_getElem?_getD, List.getElem?_eq_getElem hi]
  rfl
theorem shnCall {prog : Program} {w : World} {A : Around} {E : Value → Shared → Prop} {s : Shared} {Q : Value → Shared → Prop} {q tx : Addr} {tl : List (List Nat)} {k : Nat} {g : List Nat} {x : Int} {t : Tok}
    (ok : Ok A 4) (W : Wd s.heap) (tb : Tb s.heap) (X : Shn s.heap q tx k g) (htx : At s.heap tx (.strl (tl.map S))) (htl : ∀ l ∈ tl, 46 ∉ l ∧ l.length ≤ 100 ∧ k ≤ l.length) (hlen : tl.length ≤ 1000) (hg : g.length ≤ 1000) (hx0 : 0 ≤ x) (hx1 : x < tl.length)
    (h : ∀ s', Kp [] s s' → Q (.bool (onWheel tl k g x)) s') : wpAny (model prog w) A (call (.ref q) [.int x t]) Q E s := by
  obtain ⟨ct, cf, cw, doc, pm, c', ctv, tf, tw, h1, h2, h3, h4, h5⟩ := X.ex
  obtain ⟨j, rfl⟩ := Int.eq_ofNat_of_zero_le hx0
  have hj : j < tl.length := by omega
  have hmem : tl.getD j [] ∈ tl := by rw [List.getD_eq_getElem?_getD, List.getElem?_eq_getElem hj]; exact List.getElem_mem hj
  obtain ⟨m46, mlen, mk⟩ := htl _ hmem
  refine enterX (T := []) ["number"] W tb h1 rfl h2 rfl ok.room rfl shnS1 shnS2 shnS3 ?_
  intro E' L s₁ f₁
  have okd := ok.deeper (callEnv (fnX (nameOf shn) qShn (argsOf shn) (bodyOf shn) (scopeOf shn) [("wheel", cw), ("texts", ct), ("front", cf)] .none .none doc pm none (.ref c') ctv) L q)
  refine wpAny_execs_cons ?_
  walk_at "st"
  refine cG f₁ (by rfl) f₁.world.f77.at ?_
  walk_at "go"
  rename_i td s₂ f₂
  refine Subscript_ ?_
  refine Subscript_ ?_
  refine nmF (c := ct) (by rfl) (f₂.base h3) ?_
  walk_at "x"
  obtain ⟨vs, hv, hi⟩ := (f₂.base htx).strl
  obtain ⟨ty, hty⟩ := strs_get_list hi hj
  refine sbL hv.isList (gLst hv.isList hty (by omega) ?_) [.ref tx, .int j t] (by rfl)
  refine wpAny_Slice ?_
  refine wpAny_evalPart_none ?_
  refine wpAny_evalPart_some ?_
  refine nmF (c := cf) (by rfl) (f₂.base h4) ?_
  refine wpAny_evalPart_none ?_
  refine slE f₂ ?_
  intro sl s₃ f₃ hsl _
  refine sbS (gStrTo f₃ hsl mk (by omega) ?_) [.ref sl, .str (S (tl.getD j [])) ty] (by rfl)
  intro tg s₄ f₄
  walk_at "b"
  rw [dots]
  refine oCat f₄ (by rw [S_len, S_len, List.length_take]; simp; omega) ?_
  intro _ s₅ f₅
  walk_at "x"
  rename_i s₆ f₆
  walk_at "b"
  refine oCat f₆ (by rw [S_app, S_len, S_len, List.length_append, List.length_take]; simp; omega) ?_
  intro tz s₇ f₇
  walk_at "x"
  refine nmF (c := cw) (by rfl) (f₇.base h5) ?_
  walk_at "go"
  refine ⟨f₇.world.f77.at, ?_⟩
  rw [S_app, S_app]
  refine f77 (okd.le (by omega)) f₇.world f₇.tb (fun hm => m46 (List.mem_of_mem_take hm)) (by rw [List.length_take]; omega) hg ?_
  intro s₈ k₈
  exact h _ (f₇.call k₈).kp
theorem shnPred {prog : Program} {w : World} {s : Shared} {q tx : Addr} {tl : List (List Nat)} {k : Nat} {g : List Nat} {xs : List Int}
    (W : Wd s.heap) (X : Shn s.heap q tx k g) (htx : At s.heap tx (.strl (tl.map S))) (htl : ∀ l ∈ tl, 46 ∉ l ∧ l.length ≤ 100 ∧ k ≤ l.length) (hlen : tl.length ≤ 1000) (hg : g.length ≤ 1000) (hxs : ∀ x ∈ xs, 0 ≤ x ∧ x < tl.length) :
    PredOk prog w s q xs (onWheel tl k g) where
  fn := X.fn
  call := fun A E s₁ x t Q ok hx k₁ hQ => shnCall ok (W.ext k₁.keep) k₁.tb (X.ext k₁.keep) (htx.ext k₁.keep) htl hlen hg (hxs x hx).1 (hxs x hx).2 hQ

theorem f103 {prog : Program} {w : World} {A : Around} {E : Value → Shared → Prop} {s : Shared} {Q : Value → Shared → Prop} {tx : Addr} {k : Nat} {g : List Nat} {tf tw : Tok}
    (ok : Ok A 3) (W : Wd s.heap) (tb : Tb s.heap)
    (h : ∀ q s', Kp [98] s s' → s.heap.objs.size ≤ q → Shn s'.heap q tx k g → Q (.ref q) s') :
    wpAny (model prog w) A (call (.ref 103) [.ref tx, .int k tf, .str (S g) tw]) Q E s := by
  refine enterC (T := [98]) ["texts", "front", "wheel"] W tb W.f103 ok.room (fun _ _ _ => rfl) (by decide +kernel) (by decide +kernel) (by decide +kernel) ?_
  intro E' L s₁ f₀
  have f₁ : Fm [98] s L (fun _ => none) [(L + 3, .cell (some (.str (S g) tw))), (L + 2, .cell (some (.int k tf))), (L + 1, .cell (some (.ref tx)))] s₁ := f₀
  refine wpAny_execs_cons ?_
  refine nestDef_K rfl rfl rfl ?_
  refine mkFn (name := nameOf shn) (qual := qShn) (params := argsOf shn) (body := bodyOf shn) (scope := scopeOf shn) (pos := posOf shn) (clos := [("wheel", L + 3), ("texts", L + 1), ("front", L + 2)]) TabRow.s f₁ (by simp) (by simp [OS.isCode]) rfl rfl rfl ?_
  intro q c' ctv doc pm s₂ hq _ f₂
  walk_at "go"
  rename_i s₃ f₃
  refine h q s₃ f₃.kp (Nat.le_trans f₁.kp.grow hq) ?_
  obtain ⟨oc, e1, vs, t, e2, e3⟩ := f₃.at (a := c') (by walk_at "mem")
  exact ⟨⟨L + 1, L + 2, L + 3, doc, pm, c', ctv, tf, tw, f₃.rawAt (by walk_at "mem"), ⟨c', oc, vs, t, rfl, e1, e2, e3⟩, f₃.at (by walk_at "mem"), f₃.at (by walk_at "mem"), f₃.at (by walk_at "mem")⟩⟩
end

/-! Pl -/
section
/-! the plain law: figures of fractions -/
def dg (b d c j : Nat) : Nat := (c * b ^ (j + 1) / d) % b
theorem div_step1 {b : Nat} (hb : 0 < b) (d c k : Nat) : c * b ^ (k + 1) / d / b = c * b ^ k / d := by
  rw [Nat.div_div_eq_div_mul, Nat.pow_succ, ← Nat.mul_assoc, Nat.mul_div_mul_right _ _ hb]
theorem digs_dg (n d c : Nat) : ∀ k : Nat, (digs n k ((c * (2 ^ n) ^ k / d : Nat) : Int)).reverse = (List.range k).map fun j => ((dg (2 ^ n) d c j : Nat) : Int)
  | 0 => rfl
  | k + 1 => by
    have hb : 0 < 2 ^ n := Nat.pow_pos (by decide)
    show (((c * (2 ^ n) ^ (k + 1) / d : Nat) : Int) % 2 ^ n :: digs n k (((c * (2 ^ n) ^ (k + 1) / d : Nat) : Int) / 2 ^ n)).reverse = _
    have e1 : ((c * (2 ^ n) ^ (k + 1) / d : Nat) : Int) % 2 ^ n = ((dg (2 ^ n) d c k : Nat) : Int) := by
      unfold dg; push_cast; rfl
    have e2 : ((c * (2 ^ n) ^ (k + 1) / d : Nat) : Int) / 2 ^ n = ((c * (2 ^ n) ^ k / d : Nat) : Int) := by
      rw [← div_step1 hb d c k]; push_cast; rfl
    rw [e1, e2, List.reverse_cons, digs_dg n d c k, List.range_succ, List.map_append]
    rfl
theorem dg_lt {b : Nat} (hb : 0 < b) (d c j : Nat) : dg b d c j < b := Nat.mod_lt _ hb
theorem dg_shift {b d : Nat} (hd : 0 < d) (f i j : Nat) : dg b d (f * b ^ i % d) j = dg b d f (i + j) := by
  unfold dg
  have e : f * b ^ (i + j + 1) = d * (f * b ^ i / d * b ^ (j + 1)) + f * b ^ i % d * b ^ (j + 1) := by
    have h := Nat.div_add_mod (f * b ^ i) d
    calc f * b ^ (i + j + 1) = f * b ^ i * b ^ (j + 1) := by rw [Nat.mul_assoc, ← Nat.pow_add, Nat.add_assoc]
      _ = (d * (f * b ^ i / d) + f * b ^ i % d) * b ^ (j + 1) := by rw [h]
      _ = _ := by rw [Nat.add_mul, Nat.mul_assoc]
  rw [e, Nat.mul_add_div hd]
  have e2 : f * b ^ i / d * b ^ (j + 1) = b * (f * b ^ i / d * b ^ j) := by rw [Nat.pow_succ, ← Nat.mul_assoc, Nat.mul_comm]
  rw [e2, Nat.mul_add_mod]
theorem front_eq {b d : Nat} (hb : 0 < b) {c c' : Nat} (hc : c < d) (hc' : c' < d) : ∀ k : Nat, (∀ j < k, dg b d c j = dg b d c' j) ↔ c * b ^ k / d = c' * b ^ k / d
  | 0 => by
    rw [Nat.pow_zero, Nat.mul_one, Nat.mul_one, Nat.div_eq_of_lt hc, Nat.div_eq_of_lt hc']
    exact ⟨fun _ => rfl, fun _ j hj => by omega⟩
  | k + 1 => by
    have ih := front_eq hb hc hc' k
    constructor
    · intro h
      have h1 := ih.mp fun j hj => h j (by omega)
      have h2 : c * b ^ (k + 1) / d % b = c' * b ^ (k + 1) / d % b := h k (by omega)
      rw [← div_step1 hb d c k, ← div_step1 hb d c' k] at h1
      rw [← Nat.div_add_mod (c * b ^ (k + 1) / d) b, h1, h2, Nat.div_add_mod]
    · intro h j hj
      rcases Nat.lt_succ_iff_lt_or_eq.mp hj with hj | rfl
      · refine ih.mpr ?_ j hj
        rw [← div_step1 hb d c k, ← div_step1 hb d c' k, h]
      · unfold dg; rw [h]

/-- a configuration -/
structure Cfg (d n N : Nat) (W : Int) : Prop where
  d2 : 2 ≤ d
  n1 : 1 ≤ n
  N1 : 1 ≤ N
  per : (2 ^ n) ^ N % d = 1
  wh : W = ((((2 ^ n) ^ N - 1) / d : Nat) : Int)
theorem Cfg.b0 {d n N : Nat} {W : Int} (C : Cfg d n N W) : 0 < 2 ^ n := Nat.pow_pos (by decide)
theorem Cfg.back {d n N : Nat} {W : Int} (C : Cfg d n N W) {c : Nat} (hc : c < d) : c * (2 ^ n) ^ N % d = c := by
  rw [Nat.mul_mod, C.per, Nat.mul_one, Nat.mod_mod, Nat.mod_eq_of_lt hc]
theorem Cfg.whole {d n N : Nat} {W : Int} (C : Cfg d n N W) : ∃ w : Nat, W = w ∧ (2 ^ n) ^ N = d * w + 1 := by
  have hd := C.d2
  refine ⟨_, C.wh, ?_⟩
  have h := Nat.div_add_mod ((2 ^ n) ^ N) d
  rw [C.per] at h
  have e : ((2 ^ n) ^ N - 1) / d = (2 ^ n) ^ N / d := by
    have : (2 ^ n) ^ N - 1 = d * ((2 ^ n) ^ N / d) := by omega
    rw [this, Nat.mul_div_cancel_left _ (by omega)]
  rw [e]; omega
theorem Cfg.times {d n N : Nat} {W : Int} (C : Cfg d n N W) {c : Nat} (hc : c < d) : (c : Int) * W = ((c * (2 ^ n) ^ N / d : Nat) : Int) := by
  obtain ⟨w, rfl, e⟩ := C.whole
  have hd := C.d2
  have e2 : c * (2 ^ n) ^ N / d = c * w := by
    rw [e, Nat.mul_add, Nat.mul_one]
    have : c * (d * w) = d * (c * w) := by rw [← Nat.mul_assoc, Nat.mul_comm c d, Nat.mul_assoc]
    rw [this, Nat.mul_add_div (by omega), Nat.div_eq_of_lt hc, Nat.add_zero]
  rw [e2, Int.natCast_mul]
theorem Cfg.fits {d n N : Nat} {W : Int} (C : Cfg d n N W) {c : Nat} (hc : c < d) : 0 ≤ (c : Int) * W ∧ (c : Int) * W < 2 ^ (n * N) := by
  rw [C.times hc]
  refine ⟨Int.natCast_nonneg _, ?_⟩
  have hd := C.d2
  have h : c * (2 ^ n) ^ N / d < 2 ^ (n * N) := by
    rw [Nat.pow_mul]
    refine Nat.div_lt_of_lt_mul ?_
    exact Nat.mul_lt_mul_of_pos_right hc (Nat.pow_pos C.b0)
  exact_mod_cast h
def sgOf (sg : List Nat) (b d c j : Nat) : Nat := sg.getD (dg b d c j) 0
theorem Cfg.txt {d n N : Nat} {W : Int} (C : Cfg d n N W) (sg : List Nat) {c : Nat} (hc : c < d) : txtOf n N sg ((c : Int) * W) = (List.range N).map (sgOf sg (2 ^ n) d c) := by
  unfold txtOf
  rw [C.times hc, digs_dg, List.map_map]
  rfl
theorem Cfg.round {d n N : Nat} {W : Int} (C : Cfg d n N W) {c : Nat} (hc : c < d) (j : Nat) : dg (2 ^ n) d c (N + j) = dg (2 ^ n) d c j := by
  have hd := C.d2
  rw [← dg_shift (by omega), C.back hc]
theorem Cfg.wheel {d n N : Nat} {W : Int} (C : Cfg d n N W) (sg : List Nat) {c : Nat} (hc : c < d) : txtOf n N sg ((c : Int) * W) ++ txtOf n N sg ((c : Int) * W) = (List.range (N + N)).map (sgOf sg (2 ^ n) d c) := by
  rw [C.txt sg hc, List.range_add, List.map_append, List.map_map]
  congr 1
  refine List.map_congr_left fun j _ => ?_
  show sgOf sg (2 ^ n) d c j = sgOf sg (2 ^ n) d c (N + j)
  unfold sgOf; rw [C.round hc]
theorem cut_map (g : Nat → Nat) (M i k : Nat) (h : i + k ≤ M) : (((List.range M).map g).drop i).take k = (List.range k).map fun j => g (i + j) := by
  apply List.ext_getElem
  · simp; omega
  · intro j h1 h2
    simp
theorem map_range_inj {k : Nat} {g g' : Nat → Nat} : (List.range k).map g = (List.range k).map g' ↔ ∀ j < k, g j = g' j := by
  rw [List.map_inj_left]
  exact ⟨fun h j hj => h j (List.mem_range.mpr hj), fun h j hj => h j (List.mem_range.mp hj)⟩
theorem sg_inj {sg : List Nat} (hn : sg.Nodup) {i j : Nat} (hi : i < sg.length) (hj : j < sg.length) : sg.getD i 0 = sg.getD j 0 ↔ i = j := by
  constructor
  · intro h
    rw [List.getD_eq_getElem?_getD, List.getD_eq_getElem?_getD, List.getElem?_eq_getElem hi, List.getElem?_eq_getElem hj] at h
    have hp := List.pairwise_iff_getElem.mp hn
    rcases Nat.lt_trichotomy i j with h' | h' | h'
    · exact absurd h (hp i j hi hj h')
    · exact h'
    · exact absurd h.symm (hp j i hj hi h')
  · rintro rfl; rfl
/-- seen on the wheel -/
theorem Cfg.seen {d n N : Nat} {W : Int} (C : Cfg d n N W) {sg : List Nat} (hl : sg.length = 2 ^ n) (hn : sg.Nodup) {k c f : Nat} (hk1 : 1 ≤ k) (hk : k ≤ N) (hc : c < d) (hf : f < d) :
    Txt.contains (S ((List.range (N + N)).map (sgOf sg (2 ^ n) d f))) (S ((txtOf n N sg ((c : Int) * W)).take k)) = true ↔ ∃ i < N, f * (2 ^ n) ^ i % d * (2 ^ n) ^ k / d = c * (2 ^ n) ^ k / d := by
  have hd := C.d2
  have e1 : (txtOf n N sg ((c : Int) * W)).take k = (List.range k).map (sgOf sg (2 ^ n) d c) := by
    rw [C.txt sg hc]
    have := cut_map (sgOf sg (2 ^ n) d c) N 0 k (by omega)
    simpa using this
  have key : ∀ i, i + k ≤ N + N → ((((List.range (N + N)).map (sgOf sg (2 ^ n) d f)).drop i).take k = (List.range k).map (sgOf sg (2 ^ n) d c) ↔ f * (2 ^ n) ^ i % d * (2 ^ n) ^ k / d = c * (2 ^ n) ^ k / d) := by
    intro i hi
    rw [cut_map _ _ _ _ hi, map_range_inj, ← front_eq C.b0 (Nat.mod_lt _ (by omega)) hc k]
    refine forall_congr' fun j => imp_congr_right fun hj => ?_
    show sg.getD (dg (2 ^ n) d f (i + j)) 0 = sg.getD (dg (2 ^ n) d c j) 0 ↔ _
    rw [sg_inj hn (by rw [hl]; exact dg_lt C.b0 _ _ _) (by rw [hl]; exact dg_lt C.b0 _ _ _), dg_shift (by omega)]
  rw [contains_S, e1]
  have e2 : ((List.range k).map (sgOf sg (2 ^ n) d c)).length = k := by simp
  have e3 : ((List.range (N + N)).map (sgOf sg (2 ^ n) d f)).length = N + N := by simp
  rw [e2, e3]
  constructor
  · rintro ⟨i, hi, h⟩
    have h' := (key i hi).mp h
    have hN := C.N1
    by_cases hiN : i < N
    · exact ⟨i, hiN, h'⟩
    · refine ⟨i - N, by omega, ?_⟩
      have e : f * (2 ^ n) ^ i % d = f * (2 ^ n) ^ (i - N) % d := by
        have : i = N + (i - N) := by omega
        rw [this, Nat.pow_add, ← Nat.mul_assoc, Nat.mul_mod, C.back hf, Nat.add_sub_cancel_left, Nat.mul_mod f ((2 ^ n) ^ (i - N)) d, Nat.mod_eq_of_lt hf]
      rw [← e]; exact h'
  · rintro ⟨i, hi, h⟩
    exact ⟨i, by omega, (key i (by omega)).mpr h⟩
theorem seenF_nat (f d n k i : Nat) : seenF (f : Int) (d : Int) (2 ^ n : Int) (k : Int) i = ((f * (2 ^ n) ^ i % d * (2 ^ n) ^ k / d : Nat) : Int) := by
  unfold seenF
  rw [Int.toNat_natCast, Int.fdiv_eq_ediv_of_nonneg _ (by omega), Int.fmod_eq_emod_of_nonneg _ (by omega)]
  push_cast
  rfl
theorem seen_any (f d n k N : Nat) (v : Nat) : (seenL (f : Int) (d : Int) (2 ^ n : Int) (k : Int) N).any (· == (v : Int)) = true ↔ ∃ i < N, f * (2 ^ n) ^ i % d * (2 ^ n) ^ k / d = v := by
  unfold seenL
  rw [List.any_map, List.any_eq_true]
  constructor
  · rintro ⟨i, hi, h⟩
    have h' : seenF (f : Int) (d : Int) (2 ^ n : Int) (k : Int) i = (v : Int) := by simpa using h
    rw [seenF_nat] at h'
    exact ⟨i, List.mem_range.mp hi, by exact_mod_cast h'⟩
  · rintro ⟨i, hi, h⟩
    refine ⟨i, List.mem_range.mpr hi, ?_⟩
    have : seenF (f : Int) (d : Int) (2 ^ n : Int) (k : Int) i = (v : Int) := by rw [seenF_nat, h]
    simpa using this
def tlOf (d n N : Nat) (sg : List Nat) (W : Int) : List (List Nat) := (List.range d).map fun c : Nat => txtOf n N sg ((c : Int) * W)
theorem tlOf_get {d n N : Nat} {sg : List Nat} {W : Int} {c : Nat} (hc : c < d) : (tlOf d n N sg W).getD c [] = txtOf n N sg ((c : Int) * W) := by
  unfold tlOf
  rw [List.getD_eq_getElem?_getD, List.getElem?_map, List.getElem?_range hc]
  rfl
/-- is it seen? -/
def isSeen (d n k N : Nat) (f c : Int) : Bool := (seenL f (d : Int) (2 ^ n : Int) (k : Int) N).any (· == (c * (2 ^ n : Int) ^ k).fdiv d)
theorem Cfg.law {d n N : Nat} {W : Int} (C : Cfg d n N W) {sg : List Nat} (hl : sg.length = 2 ^ n) (hn : sg.Nodup) {k : Nat} {c : Int} {f : Nat} (hk1 : 1 ≤ k) (hk : k ≤ N) (hc0 : 0 ≤ c) (hc : c < d) (hf : f < d) :
    onWheel (tlOf d n N sg W) k ((List.range (N + N)).map (sgOf sg (2 ^ n) d f)) c = isSeen d n k N f c := by
  obtain ⟨c, rfl⟩ := Int.eq_ofNat_of_zero_le hc0
  have hc' : c < d := by omega
  unfold onWheel isSeen
  rw [Int.toNat_natCast, tlOf_get hc', Bool.eq_iff_iff, C.seen hl hn hk1 hk hc' hf]
  have e : ((c : Int) * (2 ^ n : Int) ^ k).fdiv d = ((c * (2 ^ n) ^ k / d : Nat) : Int) := by
    rw [Int.fdiv_eq_ediv_of_nonneg _ (by omega)]; push_cast; rfl
  rw [e, seen_any]
theorem Cfg.law1 {d n N : Nat} {W : Int} (C : Cfg d n N W) {sg : List Nat} (hl : sg.length = 2 ^ n) (hn : sg.Nodup) {k : Nat} {c f : Int} (hk1 : 1 ≤ k) (hk : k ≤ N) (hc0 : 0 ≤ c) (hc : c < d) (hf0 : 0 ≤ f) (hf : f < d) :
    onWheel (tlOf d n N sg W) k (txtOf n N sg (f * W) ++ txtOf n N sg (f * W)) c = isSeen d n k N f c := by
  obtain ⟨f, rfl⟩ := Int.eq_ofNat_of_zero_le hf0
  rw [C.wheel sg (by omega), C.law hl hn hk1 hk hc0 hc (by omega)]
/-- the mirror -/
theorem Cfg.mirror {d n N : Nat} {W : Int} (C : Cfg d n N W) {f : Nat} (hf1 : 1 ≤ f) (hf : f < d) (j : Nat) : dg (2 ^ n) d (d - f) j = 2 ^ n - 1 - dg (2 ^ n) d f j := by
  have hd := C.d2
  have hb := C.b0
  have hnz : ∀ i, f * (2 ^ n) ^ i % d ≠ 0 := by
    intro i h
    have h1 : f * (2 ^ n) ^ (i * N) % d = f := by
      clear h
      induction i with
      | zero => rw [Nat.zero_mul, Nat.pow_zero, Nat.mul_one, Nat.mod_eq_of_lt hf]
      | succ i ih =>
        rw [Nat.succ_mul, Nat.pow_add, ← Nat.mul_assoc, Nat.mul_mod, ih, C.per, Nat.mul_one, Nat.mod_eq_of_lt hf]
    have h2 : f * (2 ^ n) ^ (i * N) = f * (2 ^ n) ^ i * (2 ^ n) ^ (i * N - i) := by
      have := C.N1
      rw [Nat.mul_assoc, ← Nat.pow_add]
      congr 2
      have : i * 1 ≤ i * N := Nat.mul_le_mul_left i C.N1
      omega
    rw [h2, Nat.mul_mod, h, Nat.zero_mul, Nat.zero_mod] at h1
    omega
  unfold dg
  have h := Nat.div_add_mod (f * (2 ^ n) ^ (j + 1)) d
  have hr := hnz (j + 1)
  have hr2 := Nat.mod_lt (f * (2 ^ n) ^ (j + 1)) (show d > 0 by omega)
  generalize f * (2 ^ n) ^ (j + 1) / d = q at h
  generalize hrr : f * (2 ^ n) ^ (j + 1) % d = r at h hr hr2
  have hfb : f * (2 ^ n) ^ (j + 1) < d * (2 ^ n) ^ (j + 1) := Nat.mul_lt_mul_of_pos_right hf (Nat.pow_pos hb)
  have hq : q < (2 ^ n) ^ (j + 1) := by
    rcases Nat.lt_or_ge q ((2 ^ n) ^ (j + 1)) with h' | h'
    · exact h'
    · have := Nat.mul_le_mul_left d h'
      omega
  obtain ⟨p, hp⟩ : ∃ p, (2 ^ n) ^ (j + 1) = q + 1 + p := ⟨(2 ^ n) ^ (j + 1) - (q + 1), by omega⟩
  have e : (d - f) * (2 ^ n) ^ (j + 1) = d * p + (d - r) := by
    rw [Nat.sub_mul, ← h, hp, Nat.mul_add, Nat.mul_add]
    omega
  rw [e, Nat.mul_add_div (by omega), Nat.div_eq_of_lt (show d - r < d by omega), Nat.add_zero]
  have e3 : (2 ^ n) ^ (j + 1) = 2 ^ n * (2 ^ n) ^ j := by rw [Nat.pow_succ, Nat.mul_comm]
  have hqd := Nat.div_add_mod q (2 ^ n)
  have hqm := Nat.mod_lt q hb
  generalize (2 ^ n) = b at *
  generalize q % b = qm at hqd hqm
  generalize q / b = qd at hqd
  have hlt : qd < b ^ j := by
    rcases Nat.lt_or_ge qd (b ^ j) with h' | h'
    · exact h'
    · have := Nat.mul_le_mul_left b h'
      omega
  obtain ⟨u, hu⟩ : ∃ u, b ^ j = qd + 1 + u := ⟨b ^ j - (qd + 1), by omega⟩
  have : p = b * u + (b - 1 - qm) := by
    rw [e3, hu, Nat.mul_add, Nat.mul_add] at hp
    omega
  rw [this, Nat.mul_add_mod, Nat.mod_eq_of_lt (by omega)]
def swapC (ps : List (Nat × Nat)) (c : Nat) : Nat := ps.foldl (fun c p => if c = p.1 then p.2 else c) c
theorem swaps_map : ∀ (ps : List (Nat × Nat)) (l : List Nat), swaps ps l = l.map (swapC ps)
  | [], l => by
    show l = l.map _
    have : l.map (swapC []) = l.map id := List.map_congr_left fun c _ => rfl
    rw [this, List.map_id]
  | p :: r, l => by
    show swaps r _ = _
    rw [swaps_map r, List.map_map]
    rfl
theorem Cfg.law2 {d n N : Nat} {W : Int} (C : Cfg d n N W) {sg : List Nat} {ps : List (Nat × Nat)} (hl : sg.length = 2 ^ n) (hn : sg.Nodup) (hps : ∀ j < 2 ^ n, swapC ps (sg.getD j 0) = sg.getD (2 ^ n - 1 - j) 0) {k : Nat} {c f : Int} (hk1 : 1 ≤ k) (hk : k ≤ N) (hc0 : 0 ≤ c) (hc : c < d) (hf0 : 1 ≤ f) (hf : f < d) :
    onWheel (tlOf d n N sg W) k (swaps ps (txtOf n N sg (f * W) ++ txtOf n N sg (f * W))) c = isSeen d n k N (d - f) c := by
  obtain ⟨f, rfl⟩ := Int.eq_ofNat_of_zero_le (show 0 ≤ f by omega)
  have e : (d : Int) - (f : Int) = ((d - f : Nat) : Int) := by omega
  rw [C.wheel sg (by omega), swaps_map, List.map_map, e, ← C.law hl hn hk1 hk hc0 hc (show d - f < d by omega)]
  congr 1
  refine List.map_congr_left fun j _ => ?_
  show swapC ps (sg.getD (dg (2 ^ n) d f j) 0) = sg.getD (dg (2 ^ n) d (d - f) j) 0
  rw [hps _ (dg_lt C.b0 _ _ _), C.mirror (by omega) (by omega)]
theorem isSeen_self {d n k N : Nat} {f : Int} (hN : 1 ≤ N) (hf0 : 0 ≤ f) (hf : f < d) : isSeen d n k N f f = true := by
  obtain ⟨f, rfl⟩ := Int.eq_ofNat_of_zero_le hf0
  unfold isSeen
  have e : ((f : Int) * (2 ^ n : Int) ^ k).fdiv d = ((f * (2 ^ n) ^ k / d : Nat) : Int) := by
    rw [Int.fdiv_eq_ediv_of_nonneg _ (by omega)]; push_cast; rfl
  rw [e, seen_any]
  exact ⟨0, by omega, by rw [Nat.pow_zero, Nat.mul_one, Nat.mod_eq_of_lt (by omega)]⟩
end

/-! F115a -/
section
theorem ifIn {prog : Program} {w : World} {A : Around} {E : Value → Shared → Prop} {T : List Addr} {s₀ s : Shared} {L : Addr} {m : Str → Option Value} {nw : List (Addr × OS)} {R : Flow → Shared → Prop} {X Y : Str} {lx ly lz : Addr} {ys zs : List Int} {B d : Int} {k : Nat} {tB td tk : Tok} {body : List Stmt}
    {p0 p1 p2 p3 p4 p5 p6 p7 p8 p9 q1 q2 q3 q4 q5 q6 : Pos}
    (ok : Ok A 30) (f : Fm T s₀ L m nw s) (hT : ∀ b ∈ T, b = 44 ∨ b = 51 ∨ b = 98) (hX : m X = some (.ref lx)) (hY : m Y = some (.ref ly))
    (hlx : (lx, .intl (ys.filter fun v => (zs.any (· == (v * B ^ k).fdiv d)))) ∈ nw) (hly : (ly, .intl ys) ∈ nw) (hlz : (lz, .intl zs) ∈ nw)
    (hB : (L + 3, .cell (some (.int B tB))) ∈ nw) (hd : (L + 1, .cell (some (.int d td))) ∈ nw) (hk : (L + 6, .cell (some (.int k tk))) ∈ nw) (hz : (L + 8, .cell (some (.ref lz))) ∈ nw)
    (hB2 : B = 2 ∨ B = 4) (hd0 : 1 ≤ d) (hd1 : d ≤ 100) (hk1 : k ≤ 50) (hys : ∀ y ∈ ys, 0 ≤ y ∧ y ≤ 1000) (hyl : ys.length ≤ 1000)
    (h : ∀ s', Fm T s₀ L m nw s' → R .next s')
    (hkX : (fenvC (stAt 20) 115 114 L).kindOf X = some .local := by rfl) (hkY : (fenvC (stAt 20) 115 114 L).kindOf Y = some .local := by rfl)
    (hdX : (X == ("__debug__" : Str)) = false := by decide) (hdY : (Y == ("__debug__" : Str)) = false := by decide) :
    wpAny (model prog w) A (exec (.If (.Compare (.Name X p0) [.NotEq] [.ListComp (.Name "c" p1) [⟨.Name "c" p2, .Name Y p3, [.Compare (.BinOp (.BinOp (.Name "c" p4) .Mult (.BinOp (.Name "base" p5) .Pow (.Name "front" p6) p7) p8) .FloorDiv (.Name "divisor" p9) q1) [.In] [.Name "seen" q2] q3], 0⟩]
      { kind := .function, names := [(".0", .local), ("c", .local), ("base", .free), ("divisor", .free), ("front", .free), ("seen", .free)], isGenerator := false, isCoroutine := false, more := [] } q4] q5) body [] q6) (fenvC (stAt 20) 115 114 L)) R E s := by
  refine wpAny_If ?_
  refine wpAny_isTrue_Compare1 ?_
  refine nmL f hX ?_ rfl rfl hkX hdX
  refine lcI (cl := [("seen", L + 8), ("front", L + 6), ("divisor", L + 1), ("base", L + 3)]) (fun v => (zs.any (· == (v * B ^ k).fdiv d))) (fun v y => ∃ t, y = Value.int v t) ok.h (by rfl) (by decide +kernel) (by rfl) (by decide +kernel) (by rfl) ?_ (by intro _; rfl)
  refine nmL f hY ?_ rfl rfl hkY hdY
  refine ⟨_, _, _, _, _, ly, ys, rfl, f, (f.at hly).il, by omega, hT, ?_, ?_, ?_⟩
  · intro C i v t s₃ m₃ E' hv hc hm
    have q := hc.cq
    have hvb := hys v (List.mem_of_getElem? hv)
    refine qOne ?_
    refine wpAny_isTrue_Compare1 ?_
    refine wpAny_BinOp ?_
    refine wpAny_BinOp ?_
    refine qL q hm ?_
    refine wpAny_BinOp ?_
    refine qC (c := L + 3) q (by rfl) (f.at hB) ?_
    refine qC (c := L + 6) q (by rfl) (f.at hk) ?_
    refine qPow q (by omega) (powFits hB2 (by omega) (by omega)) ?_
    intro _ _ q
    refine qMul q (mulL hvb.1 (by omega)) ?_
    intro _ _ q
    refine qC (c := L + 1) q (by rfl) (f.at hd) ?_
    refine qDiv q (by omega) (by omega) ?_
    intro _ _ q
    refine qC (c := L + 8) q (by rfl) (f.at hz) ?_
    refine qIn q (f.at hlz) ?_
    refine wpAny_truthy_bool ?_
    exact ⟨rfl, q.k⟩
  · intro C i v t s₃ m₃ E' hv _ hc hm
    refine qL hc.cq hm ?_
    exact ⟨⟨t, rfl⟩, hc.cq.k⟩
  · intro D ws s₄ f₄ hp
    obtain ⟨vs, hv, hi⟩ := (f₄.at (List.mem_cons_of_mem _ hlx)).intl
    refine ke_ne_ints hv.isList (f₄.at (a := D) List.mem_cons_self).isList hi (paired_same hp) (by have := ok.u; show A.units + 64 < 9900; omega) ?_
    refine wpAny_truthy_bool ?_
    refine iteF (by simp) ?_
    exact wpAny_execs_nil (h _ (f₄.drop (pre := [])))
 
theorem ifNotIn {prog : Program} {w : World} {A : Around} {E : Value → Shared → Prop} {T : List Addr} {s₀ s : Shared} {L : Addr} {m : Str → Option Value} {nw : List (Addr × OS)} {R : Flow → Shared → Prop} {X Y : Str} {lx ly lz : Addr} {ys zs : List Int} {B d : Int} {k : Nat} {tB td tk : Tok} {body : List Stmt}
    {p0 p1 p2 p3 p4 p5 p6 p7 p8 p9 q1 q2 q3 q4 q5 q6 : Pos}
    (ok : Ok A 30) (f : Fm T s₀ L m nw s) (hT : ∀ b ∈ T, b = 44 ∨ b = 51 ∨ b = 98) (hX : m X = some (.ref lx)) (hY : m Y = some (.ref ly))
    (hlx : (lx, .intl (ys.filter fun v => !(zs.any (· == (v * B ^ k).fdiv d)))) ∈ nw) (hly : (ly, .intl ys) ∈ nw) (hlz : (lz, .intl zs) ∈ nw)
    (hB : (L + 3, .cell (some (.int B tB))) ∈ nw) (hd : (L + 1, .cell (some (.int d td))) ∈ nw) (hk : (L + 6, .cell (some (.int k tk))) ∈ nw) (hz : (L + 8, .cell (some (.ref lz))) ∈ nw)
    (hB2 : B = 2 ∨ B = 4) (hd0 : 1 ≤ d) (hd1 : d ≤ 100) (hk1 : k ≤ 50) (hys : ∀ y ∈ ys, 0 ≤ y ∧ y ≤ 1000) (hyl : ys.length ≤ 1000)
    (h : ∀ s', Fm T s₀ L m nw s' → R .next s')
    (hkX : (fenvC (stAt 20) 115 114 L).kindOf X = some .local := by rfl) (hkY : (fenvC (stAt 20) 115 114 L).kindOf Y = some .local := by rfl)
    (hdX : (X == ("__debug__" : Str)) = false := by decide) (hdY : (Y == ("__debug__" : Str)) = false := by decide) :
    wpAny (model prog w) A (exec (.If (.Compare (.Name X p0) [.NotEq] [.ListComp (.Name "c" p1) [⟨.Name "c" p2, .Name Y p3, [.Compare (.BinOp (.BinOp (.Name "c" p4) .Mult (.BinOp (.Name "base" p5) .Pow (.Name "front" p6) p7) p8) .FloorDiv (.Name "divisor" p9) q1) [.NotIn] [.Name "seen" q2] q3], 0⟩]
      { kind := .function, names := [(".0", .local), ("c", .local), ("base", .free), ("divisor", .free), ("front", .free), ("seen", .free)], isGenerator := false, isCoroutine := false, more := [] } q4] q5) body [] q6) (fenvC (stAt 20) 115 114 L)) R E s := by
  refine wpAny_If ?_
  refine wpAny_isTrue_Compare1 ?_
  refine nmL f hX ?_ rfl rfl hkX hdX
  refine lcI (cl := [("seen", L + 8), ("front", L + 6), ("divisor", L + 1), ("base", L + 3)]) (fun v => !(zs.any (· == (v * B ^ k).fdiv d))) (fun v y => ∃ t, y = Value.int v t) ok.h (by rfl) (by decide +kernel) (by rfl) (by decide +kernel) (by rfl) ?_ (by intro _; rfl)
  refine nmL f hY ?_ rfl rfl hkY hdY
  refine ⟨_, _, _, _, _, ly, ys, rfl, f, (f.at hly).il, by omega, hT, ?_, ?_, ?_⟩
  · intro C i v t s₃ m₃ E' hv hc hm
    have q := hc.cq
    have hvb := hys v (List.mem_of_getElem? hv)
    refine qOne ?_
    refine wpAny_isTrue_Compare1 ?_
    refine wpAny_BinOp ?_
    refine wpAny_BinOp ?_
    refine qL q hm ?_
    refine wpAny_BinOp ?_
    refine qC (c := L + 3) q (by rfl) (f.at hB) ?_
    refine qC (c := L + 6) q (by rfl) (f.at hk) ?_
    refine qPow q (by omega) (powFits hB2 (by omega) (by omega)) ?_
    intro _ _ q
    refine qMul q (mulL hvb.1 (by omega)) ?_
    intro _ _ q
    refine qC (c := L + 1) q (by rfl) (f.at hd) ?_
    refine qDiv q (by omega) (by omega) ?_
    intro _ _ q
    refine qC (c := L + 8) q (by rfl) (f.at hz) ?_
    refine qNotIn q (f.at hlz) ?_
    refine wpAny_truthy_bool ?_
    exact ⟨rfl, q.k⟩
  · intro C i v t s₃ m₃ E' hv _ hc hm
    refine qL hc.cq hm ?_
    exact ⟨⟨t, rfl⟩, hc.cq.k⟩
  · intro D ws s₄ f₄ hp
    obtain ⟨vs, hv, hi⟩ := (f₄.at (List.mem_cons_of_mem _ hlx)).intl
    refine ke_ne_ints hv.isList (f₄.at (a := D) List.mem_cons_self).isList hi (paired_same hp) (by have := ok.u; show A.units + 64 < 9900; omega) ?_
    refine wpAny_truthy_bool ?_
    refine iteF (by simp) ?_
    exact wpAny_execs_nil (h _ (f₄.drop (pre := [])))
end

/-! F115b -/
section
def whBody : Stmt → List Stmt
  | .While _ b _ _ => b
  | _ => []
def lawBody : List Stmt := whBody (stIn (bodyOf (stAt 20)) 13)
abbrev lawCells (L : Addr) (sv : Option Value) (d n N k : Nat) (W : Int) (sg : List Nat) (td tn tb ts tz tf tw : Tok) : List (Addr × OS) :=
  [(L + 8, .cell sv), (L + 7, .cell (some (.int W tw))), (L + 6, .cell (some (.int k tf))), (L + 5, .cell (some (.int N tz))), (L + 4, .cell (some (.str (S sg) ts))), (L + 3, .cell (some (.int (2 ^ n) tb))), (L + 2, .cell (some (.int n tn))), (L + 1, .cell (some (.int d td)))]
abbrev psOf (sg : List Nat) (n : Nat) : List (Nat × Nat) := thereOf sg (2 ^ n) ++ backOf sg (2 ^ n) (2 ^ n)
structure SgOk (sg : List Nat) (n : Nat) : Prop where
  len : sg.length = 2 ^ n
  nd : sg.Nodup
  no : 46 ∉ sg
  sw : ∀ j < 2 ^ n, swapC (psOf sg n) (sg.getD j 0) = sg.getD (2 ^ n - 1 - j) 0
theorem txtOf_mem {n N : Nat} {sg : List Nat} {x : Int} {c : Nat} (hl : sg.length = 2 ^ n) (h : c ∈ txtOf n N sg x) : c ∈ sg := by
  unfold txtOf at h
  obtain ⟨e, he, rfl⟩ := List.mem_map.mp h
  obtain ⟨h0, h1⟩ := digs_mem n N x e (List.mem_reverse.mp he)
  obtain ⟨j, rfl⟩ := Int.eq_ofNat_of_zero_le h0
  have hj : j < sg.length := by rw [hl]; exact_mod_cast h1
  rw [Int.toNat_natCast, List.getD_eq_getElem?_getD, List.getElem?_eq_getElem hj]
  exact List.getElem_mem hj
theorem tlOf_ok {d n N k : Nat} {sg : List Nat} {W : Int} (hs : SgOk sg n) (hk : k ≤ N) (hN : N ≤ 30) : ∀ l ∈ tlOf d n N sg W, 46 ∉ l ∧ l.length ≤ 100 ∧ k ≤ l.length := by
  intro l hl
  unfold tlOf at hl
  obtain ⟨c, _, rfl⟩ := List.mem_map.mp hl
  rw [txtOf_length]
  exact ⟨fun h => hs.no (txtOf_mem hs.len h), by omega, hk⟩
theorem tlOf_length {d n N : Nat} {sg : List Nat} {W : Int} : (tlOf d n N sg W).length = d := by unfold tlOf; simp
theorem filter_shorter {p : Int → Bool} {x : Int} {r : List Int} (h : p x = true) : ((x :: r).filter fun c => !p c).length < (x :: r).length := by
  rw [List.filter_cons, if_neg (by rw [h]; decide), List.length_cons]
  exact Nat.lt_succ_of_le (List.length_filter_le _ _)

theorem lawTurn {prog : Program} {w : World} {A : Around} {E : Value → Shared → Prop} {s₀ s : Shared} {L : Addr} {m : Str → Option Value} {R : Flow → Shared → Prop} {lf tx pr : Addr} {ls : List Int} {sv : Option Value} {d n N k : Nat} {W : Int} {sg : List Nat} {td tn tb ts tz tf tw : Tok}
    (ok : Ok A 90) (C : Cfg d n N W) (hd : d ≤ 31) (hn : n = 1 ∨ n = 2) (hk1 : 1 ≤ k) (hk : k ≤ N) (hN : N ≤ 30) (hs : SgOk sg n) (hls : ∀ x ∈ ls, 1 ≤ x ∧ x < d) (hlen : ls.length ≤ 100) (hne : ls ≠ [])
    (h1 : m "texts" = some (.ref tx)) (h2 : m "pairs" = some (.ref pr)) (h3 : m "left" = some (.ref lf))
    (f : Fm [44, 51, 98] s₀ L m ((lf, .intl ls) :: (tx, .strl ((tlOf d n N sg W).map S)) :: (pr, .strl (pairTexts (psOf sg n))) :: lawCells L sv d n N k W sg td tn tb ts tz tf tw) s)
    (h : ∀ (m' : Str → Option Value) (lf' : Addr) (ls' : List Int) (sv' : Option Value) (s' : Shared), m' "texts" = some (.ref tx) → m' "pairs" = some (.ref pr) → m' "left" = some (.ref lf') → ls'.length < ls.length → (∀ x ∈ ls', 1 ≤ x ∧ x < d) →
      Fm [44, 51, 98] s₀ L m' ((lf', .intl ls') :: (tx, .strl ((tlOf d n N sg W).map S)) :: (pr, .strl (pairTexts (psOf sg n))) :: lawCells L sv' d n N k W sg td tn tb ts tz tf tw) s' → R .next s') :
    wpAny (model prog w) A (execs lawBody (fenvC (stAt 20) 115 114 L)) R E s := by
  have hdl := tlOf_length (d := d) (n := n) (N := N) (sg := sg) (W := W)
  obtain ⟨x, r, rfl⟩ : ∃ x r, ls = x :: r := by cases ls with | nil => exact absurd rfl hne | cons x r => exact ⟨x, r, rfl⟩
  obtain ⟨hx1, hxd⟩ := hls x List.mem_cons_self
  obtain ⟨j, rfl⟩ := Int.eq_ofNat_of_zero_le (show 0 ≤ x by omega)
  have hjd : j < d := by omega
  have hB : ((2 : Int) ^ n = 2 ∨ (2 : Int) ^ n = 4) := by rcases hn with rfl | rfl <;> decide
  -- first = left[0]
  refine wpAny_execs_cons ?_
  walk_at "st"
  refine Subscript_ ?_
  walk_at "go"
  walk_at "b"
  rename_i s₁ f₁
  obtain ⟨vs, hv, hi⟩ := (f₁.at (a := lf) (by walk_at "mem")).intl
  obtain ⟨tx0, hx0⟩ := ints_get hi (i := 0) (x := (j : Int)) rfl
  refine sbL hv.isList (gLst (k := 0) hv.isList hx0 (by omega) ?_) [.ref lf, .int 0 _] (by rfl)
  walk_at "go"
  rename_i s₂ f₂
  -- wheel = texts[first] * 2
  refine Subscript_ ?_
  walk_at "go"
  walk_at "b"
  obtain ⟨vt, hvt, hit⟩ := (f₂.at (a := tx) (by walk_at "mem")).strl
  obtain ⟨ty, hty⟩ := strs_get_list hit (i := j) (by rw [hdl]; exact hjd)
  refine sbL hvt.isList (gLst hvt.isList hty (by omega) ?_) [.ref tx, .int j tx0] (by rfl)
  rw [tlOf_get hjd]
  walk_at "go"
  walk_at "b"
  rename_i f₃
  refine oMul2 f₃ (by rw [txtOf_length]; omega) ?_
  intro tw1 s₄ f₄
  walk_at "go"
  rename_i s₅ f₅
  -- near, others
  refine Assign_Tuple ?_
  refine cG f₅ (by rfl) f₅.world.f28.at ?_
  walk_at "go"
  refine cG f₅ (by rfl) f₅.world.f103.at ?_
  walk_at "go"
  refine ⟨f₅.world.f103.at, ?_⟩
  refine f103 (ok.le (by omega)) f₅.world f₅.tb ?_
  intro q s₆ k₆ _ X₆
  have f₆ := f₅.call k₆
  walk_at "go"
  refine ⟨f₆.world.f28.at, ?_⟩
  have hgl : (txtOf n N sg ((j : Int) * W) ++ txtOf n N sg ((j : Int) * W)).length ≤ 1000 := by rw [List.length_append, txtOf_length]; omega
  have P₆ := shnPred (prog := prog) (w := w) (xs := (j : Int) :: r) f₆.world X₆ (f₆.at (a := tx) (by walk_at "mem")) (tlOf_ok hs hk hN) (by rw [hdl]; omega) hgl (fun y hy => ⟨by have := hls y hy; omega, by rw [hdl]; exact (hls y hy).2⟩)
  refine f28 (ok.le (by omega)) f₆.world f₆.tb (f₆.at (a := lf) (by walk_at "mem")) (by omega) P₆ ?_
  intro r1 l1 l2 s₇ k₇ hr1 hl1 hl2 hnd hat0 hat1 hat2
  have hl12 : l1 ≠ l2 := by
    intro e; subst e; simp at hnd
  have law1 : ∀ y ∈ (j : Int) :: r, onWheel (tlOf d n N sg W) k (txtOf n N sg ((j : Int) * W) ++ txtOf n N sg ((j : Int) * W)) y = isSeen d n k N j y := fun y hy =>
    C.law1 hs.len hs.nd hk1 hk (by have := hls y hy; omega) (hls y hy).2 (by omega) (by omega)
  rw [List.filter_congr law1] at hat1
  rw [List.filter_congr (fun y hy => by rw [law1 y hy])] at hat2
  have f₇ := f₆.got2 k₇ hat1 hat2 hl1 hl2 hl12
  refine unp2 ok.h f₇ hat0 ?_
  intro s₈ f₈
  -- seen
  walk_at "go"
  refine cG f₈ (by rfl) f₈.world.f110.at ?_
  walk_at "go"
  refine ⟨f₈.world.f110.at, ?_⟩
  have hd2 := C.d2
  refine f110 (ok.le (by omega)) f₈.world f₈.tb ⟨by omega, by omega⟩ ⟨by omega, by omega⟩ hB ⟨by omega, by omega⟩ (by omega) ?_
  intro l3 s₉ k₉ hl3 hat3
  have f₉ := f₈.got k₉ hat3 hl3
  refine stC (pre := [_, _, _, _, _, _]) f₉ (by rfl) ?_
  intro s₁₀ f₁₀
  have hys : ∀ y ∈ (j : Int) :: r, 0 ≤ y ∧ y ≤ 1000 := fun y hy => by have := hls y hy; omega
  walk_at "st"
  refine ifIn (lx := l1) (ly := lf) (lz := l3) (ys := (j : Int) :: r) (ok.le (by omega)) f₁₀ (by simp) (by walk_at "look") (by walk_at "look") (by walk_at "mem") (by walk_at "mem") (by walk_at "mem") (by walk_at "mem") (by walk_at "mem") (by walk_at "mem") (by walk_at "mem") hB (by omega) (by omega) (by omega) hys (by omega) ?_
  intro s₁₁ f₁₁
  walk_at "st"
  refine ifNotIn (lx := l2) (ly := lf) (lz := l3) (ys := (j : Int) :: r) (ok.le (by omega)) f₁₁ (by simp) (by walk_at "look") (by walk_at "look") (by walk_at "mem") (by walk_at "mem") (by walk_at "mem") (by walk_at "mem") (by walk_at "mem") (by walk_at "mem") (by walk_at "mem") hB (by omega) (by omega) (by omega) hys (by omega) ?_
  intro s₁₂ f₁₂
  -- mirror
  walk_at "st"
  refine wpAny_Assign_Name ?_ (by rfl)
  refine cGs f₁₂ (by rfl) ?_
  walk_at "go"
  refine items_star ?_
  walk_at "x"
  have hpl : (psOf sg n).length ≤ 10 := by
    rw [List.length_append, thereOf_length, backOf_length]
    rcases hn with rfl | rfl <;> decide
  refine oStar f₁₂ (f₁₂.at (a := pr) (by walk_at "mem")) (by rw [pairTexts_length]; omega) ?_
  intro ws s₁₃ hws f₁₃
  walk_at "go"
  refine ⟨f₁₃.world.f21.at, ?_⟩
  rw [List.append_nil]
  refine f21 (ok.le (by omega)) f₁₃.world f₁₃.tb hgl hws (by omega) ?_
  intro tm s₁₄ k₁₄
  have f₁₄ := f₁₃.call k₁₄
  walk_at "go"
  rename_i s₁₅ f₁₅
  -- folded, left
  refine Assign_Tuple ?_
  refine cG f₁₅ (by rfl) f₁₅.world.f28.at ?_
  walk_at "go"
  refine cG f₁₅ (by rfl) f₁₅.world.f103.at ?_
  walk_at "go"
  refine ⟨f₁₅.world.f103.at, ?_⟩
  refine f103 (ok.le (by omega)) f₁₅.world f₁₅.tb ?_
  intro q' s₁₆ k₁₆ _ X₁₆
  have f₁₆ := f₁₅.call k₁₆
  walk_at "go"
  refine ⟨f₁₆.world.f28.at, ?_⟩
  have hot : ∀ y ∈ ((j : Int) :: r).filter (fun y => !isSeen d n k N j y), 1 ≤ y ∧ y < d := fun y hy => hls y (List.mem_filter.mp hy).1
  have holen : (((j : Int) :: r).filter (fun y => !isSeen d n k N j y)).length ≤ 100 := Nat.le_trans (List.length_filter_le _ _) hlen
  generalize hor : ((j : Int) :: r).filter (fun y => !isSeen d n k N j y) = os at f₁₆ hot holen
  have P₁₆ := shnPred (prog := prog) (w := w) (xs := os) f₁₆.world X₁₆ (f₁₆.at (a := tx) (by walk_at "mem")) (tlOf_ok hs hk hN) (by rw [hdl]; omega) (by rw [swaps_length]; exact hgl) (fun y hy => ⟨by have := hot y hy; omega, by rw [hdl]; exact (hot y hy).2⟩)
  refine f28 (ok.le (by omega)) f₁₆.world f₁₆.tb (f₁₆.at (a := l2) (by walk_at "mem")) (by omega) P₁₆ ?_
  intro r2 l4 l5 s₁₇ k₁₇ hr2 hl4 hl5 hnd' hat4 hat5 hat6
  have hl45 : l4 ≠ l5 := by
    intro e; subst e; simp at hnd'
  have law2 : ∀ y ∈ os, onWheel (tlOf d n N sg W) k (swaps (psOf sg n) (txtOf n N sg ((j : Int) * W) ++ txtOf n N sg ((j : Int) * W))) y = isSeen d n k N ((d : Int) - j) y := fun y hy =>
    C.law2 hs.len hs.nd hs.sw hk1 hk (by have := hot y hy; omega) (hot y hy).2 (by omega) (by omega)
  rw [List.filter_congr law2] at hat5
  rw [List.filter_congr (fun y hy => by rw [law2 y hy])] at hat6
  have f₁₇ := f₁₆.got2 k₁₇ hat5 hat6 hl4 hl5 hl45
  refine unp2 ok.h f₁₇ hat4 ?_
  intro s₁₈ f₁₈
  -- seen
  walk_at "go"
  refine cG f₁₈ (by rfl) f₁₈.world.f110.at ?_
  walk_at "go"
  rename_i f₁₉
  refine ⟨f₁₉.world.f110.at, ?_⟩
  refine f110 (ok.le (by omega)) f₁₉.world f₁₉.tb ⟨by omega, by omega⟩ ⟨by omega, by omega⟩ hB ⟨by omega, by omega⟩ (by omega) ?_
  intro l6 s₂₀ k₂₀ hl6 hat7
  have f₂₀ := f₁₉.got k₂₀ hat7 hl6
  refine stC (pre := [_, _, _, _, _, _, _, _, _]) f₂₀ (by rfl) ?_
  intro s₂₁ f₂₁
  have hys' : ∀ y ∈ os, 0 ≤ y ∧ y ≤ 1000 := fun y hy => by have := hot y hy; omega
  walk_at "st"
  refine ifIn (lx := l4) (ly := l2) (lz := l6) (ys := os) (ok.le (by omega)) f₂₁ (by simp) (by walk_at "look") (by walk_at "look") (by walk_at "mem") (by walk_at "mem") (by walk_at "mem") (by walk_at "mem") (by walk_at "mem") (by walk_at "mem") (by walk_at "mem") hB (by omega) (by omega) (by omega) hys' (by omega) ?_
  intro s₂₂ f₂₂
  walk_at "st"
  refine ifNotIn (lx := l5) (ly := l2) (lz := l6) (ys := os) (ok.le (by omega)) f₂₂ (by simp) (by walk_at "look") (by walk_at "look") (by walk_at "mem") (by walk_at "mem") (by walk_at "mem") (by walk_at "mem") (by walk_at "mem") (by walk_at "mem") (by walk_at "mem") hB (by omega) (by omega) (by omega) hys' (by omega) ?_
  intro s₂₃ f₂₃
  walk_at "st"
  refine h _ l5 (os.filter fun y => !isSeen d n k N ((d : Int) - j) y) (some (.ref l6)) s₂₃ (by walk_at "look") (by walk_at "look") (by walk_at "look") ?_ ?_ (f₂₃.sub ?_)
  · refine Nat.lt_of_le_of_lt (List.length_filter_le _ _) ?_
    rw [← hor]
    exact filter_shorter (isSeen_self C.N1 (by omega) (by omega))
  · exact fun y hy => hot y (List.mem_filter.mp hy).1
  · repeat (first | exact List.Sublist.refl _ | refine List.Sublist.cons₂ _ ?_ | refine List.Sublist.cons _ ?_)
end

/-! F115c -/
section
/-! the configurations -/
def cfgB (d n : Nat) : Bool :=
  let fs := figLoop d (2 ^ n) d 0
  decide (1 ≤ fs.length) && decide (n * fs.length ≤ 30) && ((2 ^ n) ^ fs.length % d == 1) && (digVal n fs.reverse == ((((2 ^ n) ^ fs.length - 1) / d : Nat) : Int)) && fs.all fun x => decide (0 ≤ x) && decide (x < 2 ^ n)
theorem cfg_all : ∀ t < 11, cfgB (3 + 2 * t) 1 = true ∧ cfgB (3 + 2 * t) 2 = true := by decide +kernel
structure FigOk (d n : Nat) : Prop where
  cfg : Cfg d n (figLoop d (2 ^ n) d 0).length (digVal n (figLoop d (2 ^ n) d 0).reverse)
  sz : n * (figLoop d (2 ^ n) d 0).length ≤ 30
  dig : ∀ x ∈ figLoop d (2 ^ n) d 0, 0 ≤ x ∧ x < 2 ^ n
theorem figOk {t n : Nat} (ht : t < 11) (hn : n = 1 ∨ n = 2) : FigOk (3 + 2 * t) n := by
  have h : cfgB (3 + 2 * t) n = true := by
    rcases hn with rfl | rfl
    · exact (cfg_all t ht).1
    · exact (cfg_all t ht).2
  unfold cfgB at h
  simp only [Bool.and_eq_true, decide_eq_true_eq, beq_iff_eq, List.all_eq_true] at h
  obtain ⟨⟨⟨⟨h1, h2⟩, h3⟩, h4⟩, h5⟩ := h
  exact ⟨⟨by omega, by omega, h1, h3, h4⟩, h2, h5⟩
def sign8 : List Nat := [97, 35, 98, 10, 32, 58, 33, 9]
theorem sign_lit : (Str.ofString "a#b\n :!\t" : Str) = S sign8 := by decide +kernel
def sgs (r n : Nat) : List Nat := ((sign8 ++ sign8).drop r).take (2 ^ n)
def sgB (r n : Nat) : Bool := decide ((sgs r n).length = 2 ^ n) && decide (sgs r n).Nodup && !(sgs r n).contains 46 && (List.range (2 ^ n)).all fun j => swapC (psOf (sgs r n) n) ((sgs r n).getD j 0) == (sgs r n).getD (2 ^ n - 1 - j) 0
theorem sg_all : ∀ r < 8, sgB r 1 = true ∧ sgB r 2 = true := by decide +kernel
theorem sgOk {r n : Nat} (hr : r < 8) (hn : n = 1 ∨ n = 2) : SgOk (sgs r n) n := by
  have h : sgB r n = true := by
    rcases hn with rfl | rfl
    · exact (sg_all r hr).1
    · exact (sg_all r hr).2
  unfold sgB at h
  simp only [Bool.and_eq_true, decide_eq_true_eq, beq_iff_eq, List.all_eq_true, List.mem_range, Bool.not_eq_true'] at h
  obtain ⟨⟨⟨h1, h2⟩, h3⟩, h4⟩ := h
  exact ⟨h1, h2, fun hm => by simp [hm] at h3, h4⟩
theorem natMod (z : Int) {k : Nat} (hk : 0 < k) : ∃ t : Nat, z.fmod k = t ∧ t < k := by
  have h0 := Int.fmod_nonneg_of_pos z (b := (k : Int)) (by omega)
  have h1 := Int.fmod_lt_of_pos z (b := (k : Int)) (by omega)
  obtain ⟨t, ht⟩ := Int.eq_ofNat_of_zero_le h0
  exact ⟨t, ht, by omega⟩
theorem paired_txt {d n N : Nat} {sg : List Nat} {W : Int} {ys : List Value} (h : Paired (fun v y => ∃ t, y = Value.str (S (txtOf n N sg (v * W))) t) (rng d) ys) : StrsAre ys ((tlOf d n N sg W).map S) := by
  have gen : ∀ (l : List Nat) (ys : List Value), Paired (fun v y => ∃ t, y = Value.str (S (txtOf n N sg (v * W))) t) (l.map Int.ofNat) ys → StrsAre ys ((l.map fun c : Nat => txtOf n N sg ((c : Int) * W)).map S) := by
    intro l
    induction l with
    | nil => intro ys h; cases h; exact .nil
    | cons c r ih =>
      intro ys h
      cases h with
      | cons a b => obtain ⟨t, rfl⟩ := a; exact .cons _ _ (ih _ b)
  exact gen _ _ h

theorem f115 {prog : Program} {w : World} {A : Around} {E : Value → Shared → Prop} {s : Shared} {Q : Value → Shared → Prop} {a : Addr} {xs : List Int}
    (ok : Ok A 100) (W₀ : Wd s.heap) (tb₀ : Tb s.heap) (ha : Il s.heap a xs) (hxl : xs.length ≤ 63) (h : ∀ s', Kp [44, 51, 98] s s' → Q (.bool true) s') :
    wpAny (model prog w) A (call (.ref 115) [.ref a]) Q E s := by
  have hw : At s.heap a (.wint xs) := ha.at
  refine enterC (T := [44, 51, 98]) ["script"] W₀ tb₀ W₀.f115 ok.room (fun _ _ _ => rfl) (by decide +kernel) (by decide +kernel) (by decide +kernel) ?_
  intro E' L s₁ f₀
  have okd := ok.deeper (fenvC (stAt 20) 115 114 L)
  have f₁ : Fm [44, 51, 98] s L (upd (fun _ => none) "script" (.ref a)) [(L + 8, .cell none), (L + 7, .cell none), (L + 6, .cell none), (L + 5, .cell none), (L + 4, .cell none), (L + 3, .cell none), (L + 2, .cell none), (L + 1, .cell none)] s₁ := f₀
  clear f₀
  -- total
  refine wpAny_execs_cons ?_
  walk_at "st"
  refine cB f₁ (by decide) bt_sum ?_
  walk_at "go"
  refine oSum okd.h f₁ (f₁.base hw).wil ?_
  intro z tz s₂ f₂
  walk_at "go"
  walk_at "b"
  rename_i f₃
  -- drawn
  refine oDiv f₃ (by decide) (by decide) ?_
  intro tdr s₄ f₄
  walk_at "go"
  walk_at "b"
  rename_i f₅
  -- divisor
  refine oMod f₅ (by decide) ?_
  intro _ s₆ f₆
  obtain ⟨t, ht, ht11⟩ := natMod (z + 2) (k := 11) (by decide)
  rw [show (z + 2).fmod 11 = (t : Int) from ht]
  walk_at "b"
  refine oMul f₆ (mulSmall (by decide) (by decide)) ?_
  intro _ s₇ f₇
  walk_at "b"
  refine oAdd f₇ ?_
  intro td s₈ f₈
  rw [show (3 : Int) + 2 * (t : Int) = ((3 + 2 * t : Nat) : Int) by omega]
  generalize hdd : 3 + 2 * t = d
  refine stC (pre := [_, _, _, _, _, _, _]) f₈ (by rfl) ?_
  intro s₉ f₉
  -- bits
  walk_at "go"
  walk_at "b"
  rename_i f₁₀
  refine oMod f₁₀ (by decide) ?_
  intro _ s₁₁ f₁₁
  obtain ⟨n', hn', hn2⟩ := natMod (z.fdiv 11) (k := 2) (by decide)
  rw [show (z.fdiv 11).fmod 2 = (n' : Int) from hn']
  walk_at "b"
  refine oAdd f₁₁ ?_
  intro tn s₁₂ f₁₂
  rw [show (1 : Int) + (n' : Int) = ((1 + n' : Nat) : Int) by omega]
  have hn : 1 + n' = 1 ∨ 1 + n' = 2 := by omega
  generalize 1 + n' = n at hn
  refine stC (pre := [_, _, _, _, _, _]) f₁₂ (by rfl) ?_
  intro s₁₃ f₁₃
  -- base
  walk_at "go"
  walk_at "b"
  rename_i f₁₄
  refine oPow f₁₄ (by omega) (powFits (.inl rfl) (by omega) (by omega)) ?_
  intro tb s₁₅ f₁₅
  rw [Int.toNat_natCast]
  refine stC (pre := [_, _, _, _, _]) f₁₅ (by rfl) ?_
  intro s₁₆ f₁₆
  -- signs
  walk_at "st"
  walk_at "st"
  refine Subscript_ ?_
  refine Subscript_ ?_
  walk_at "go"
  walk_at "b"
  rw [sign_lit]
  rename_i f₁₇
  refine oMul2 f₁₇ (by decide) ?_
  intro _ s₁₈ f₁₈
  refine wpAny_Slice ?_
  refine wpAny_evalPart_some ?_
  refine wpAny_BinOp ?_
  refine cB f₁₈ (by decide) bt_len ?_
  walk_at "go"
  obtain ⟨vs, hv, hi⟩ := (f₁₈.base hw).wil
  have hvl := ints_length hi
  refine oLenL f₁₈ hv (by omega) ?_
  intro _ s₁₉ f₁₉
  rw [hvl]
  walk_at "go"
  walk_at "b"
  rename_i f₂₀
  refine oMod f₂₀ (by decide) ?_
  intro _ s₂₁ f₂₁
  obtain ⟨r, hr, hr8⟩ := natMod (xs.length : Int) (k := 8) (by decide)
  rw [show ((xs.length : Int)).fmod 8 = (r : Int) from hr]
  refine wpAny_evalPart_none ?_
  refine wpAny_evalPart_none ?_
  refine slE f₂₁ ?_
  intro sl s₂₂ f₂₂ hsl _
  refine sbS (gStrFrom f₂₂ hsl (by simp [sign8]; omega) (by simp [sign8]) ?_) [.ref sl, .str (S (sign8 ++ sign8)) _] (by rfl)
  intro tq s₂₃ f₂₃
  refine wpAny_Slice ?_
  refine wpAny_evalPart_none ?_
  refine wpAny_evalPart_some ?_
  walk_at "x"
  refine wpAny_evalPart_none ?_
  refine slE f₂₃ ?_
  intro sl' s₂₄ f₂₄ hsl' _
  have eb : (2 : Int) ^ n = ((2 ^ n : Nat) : Int) := by push_cast; rfl
  rw [eb] at hsl'
  have hb4 : 2 ^ n ≤ 4 := by rcases hn with rfl | rfl <;> decide
  refine sbS (gStrTo f₂₄ hsl' (by simp [sign8]; omega) (by simp [sign8]; omega) ?_) [.ref sl', .str _ _] (by rfl)
  intro ts s₂₅ f₂₅
  have hs := sgOk hr8 hn
  change SgOk (((sign8 ++ sign8).drop r).take (2 ^ n)) n at hs
  generalize ((sign8 ++ sign8).drop r).take (2 ^ n) = sg at hs
  refine stC (pre := [_, _, _, _]) f₂₅ (by rfl) ?_
  intro s₂₆ f₂₆
  -- figures
  have hd3 : 3 ≤ d := by omega
  have hd23 : d ≤ 23 := by omega
  have FO : FigOk d n := by rw [← hdd]; exact figOk ht11 hn
  walk_at "go"
  refine cG f₂₆ (by rfl) f₂₆.world.f84.at ?_
  walk_at "go"
  refine ⟨f₂₆.world.f84.at, ?_⟩
  have hB : ((2 : Int) ^ n = 2 ∨ (2 : Int) ^ n = 4) := by rcases hn with rfl | rfl <;> decide
  refine f84 (by omega) (by omega) (by omega) (by omega) (okd.le (by omega)) f₂₆.world f₂₆.tb ?_
  intro lg s₂₇ k₂₇ hlg hatg hfull
  obtain ⟨C, hsz, hdig⟩ := FO
  generalize figLoop d (2 ^ n) d 0 = fs at hatg C hsz hdig
  have hN30 : fs.length ≤ 30 := Nat.le_trans (Nat.le_mul_of_pos_left _ C.n1) hsz
  have hN1 := C.N1
  have f₂₇ := ((f₂₆.got k₂₇ hatg hlg).addTab' hfull (by simp))
  simp only [List.cons_append, List.nil_append] at f₂₇
  walk_at "go"
  rename_i s₂₈ f₂₈
  -- size
  refine cB f₂₈ (by decide) bt_len ?_
  walk_at "go"
  obtain ⟨vg, hvg, hig⟩ := (f₂₈.at (a := lg) (by walk_at "mem")).intl
  have hvgl := ints_length hig
  refine oLenL f₂₈ hvg.isList (by omega) ?_
  intro tz s₂₉ f₂₉
  rw [hvgl]
  refine stC (pre := [_, _, _, _]) f₂₉ (by rfl) ?_
  intro s₃₀ f₃₀
  -- front
  walk_at "go"
  walk_at "b"
  rename_i f₃₁
  refine oDiv f₃₁ (by decide) (by decide) ?_
  intro _ s₃₂ f₃₂
  walk_at "go"
  walk_at "b"
  rename_i f₃₃
  refine oMod f₃₃ (by omega) ?_
  intro _ s₃₄ f₃₄
  obtain ⟨k', hk', hkN⟩ := natMod ((z.fdiv 11).fdiv 2 + 2) (k := fs.length) (by omega)
  rw [hk']
  walk_at "b"
  refine oAdd f₃₄ ?_
  intro tf s₃₅ f₃₅
  rw [show (1 : Int) + (k' : Int) = ((1 + k' : Nat) : Int) by omega]
  have hk1 : 1 ≤ 1 + k' := by omega
  have hkN' : 1 + k' ≤ fs.length := by omega
  generalize 1 + k' = k at hk1 hkN'
  refine stC (pre := [_, _, _]) f₃₅ (by rfl) ?_
  intro s₃₆ f₃₆
  -- whole
  walk_at "go"
  refine cG f₃₆ (by rfl) f₃₆.world.f56.at ?_
  walk_at "x"
  refine Subscript_ ?_
  walk_at "x"
  refine wpAny_Slice ?_
  refine wpAny_evalPart_none ?_
  refine wpAny_evalPart_none ?_
  refine wpAny_evalPart_some ?_
  refine wpAny_UnaryOp ?_
  walk_at "x"
  walk_at "b"
  refine oNeg (by assumption) ?_
  intro _ s₃₇ f₃₇
  refine slE f₃₇ ?_
  intro sl2 s₃₈ f₃₈ hsl2 _
  obtain ⟨vg2, hvg2, hig2⟩ := (f₃₈.at (a := lg) (by walk_at "mem")).intl
  have hvgl2 := ints_length hig2
  refine sbL hvg2.isList ?_ [.ref lg, .ref sl2] (by rfl)
  refine gLstRev f₃₈ hvg2.isList hig2 hsl2 (by omega) ?_
  intro lr s₃₉ hlr f₃₉
  walk_at "go"
  refine ⟨f₃₉.world.f56.at, ?_⟩
  refine f56 (fun x hx => hdig x (List.mem_reverse.mp hx)) (by rw [List.length_reverse]; omega) (by omega) (by rw [List.length_reverse]; omega) (fun e => by rw [List.reverse_eq_nil_iff] at e; rw [e] at hN1; simp at hN1) (okd.le (by omega)) f₃₉.world f₃₉.tb (f₃₉.at (a := lr) (by walk_at "mem")) ?_
  intro tw s₄₀ k₄₀
  have f₄₀ := f₃₉.call k₄₀
  generalize digVal n fs.reverse = Wh at C
  refine stC (pre := [_, _, _]) f₄₀ (by rfl) ?_
  intro s₄₁ f₄₁
  generalize fs.length = N at *
  replace f₄₁ := (f₄₁.drop (pre := [])).drop (pre := [])
  simp only [List.nil_append] at f₄₁
  -- texts
  walk_at "st"
  refine lcR (cl := [("whole", L + 7), ("size", L + 5), ("signs", L + 4), ("bits", L + 2)]) (fun _ => true) (fun v y => ∃ t, y = Value.str (S (txtOf n N sg (v * Wh))) t) okd.h (by rfl) (by rfl) (by decide +kernel) (by rfl) (by decide +kernel) (by rfl) (by rfl) (by rfl) d (by omega) ?_
  intro R hR
  refine cT f₄₁ (by decide) bt_range ?_
  walk_at "go"
  refine hR _ _ ⟨_, _, _, _, f₄₁, by simp, ?_, ?_, ?_⟩
  · intro C' i v t' s₃ m₃ E'' hv hc hm
    exact qNone ⟨rfl, hc.cq.k⟩
  · intro C' i v t' s₃ m₃ E'' hv _ hc hm
    have q := hc.cq
    have hvd : ∃ c : Nat, v = c ∧ c < d := by
      have hmem := List.mem_of_getElem? hv
      unfold rng at hmem
      obtain ⟨c, hc, rfl⟩ := List.mem_map.mp hmem
      exact ⟨c, rfl, List.mem_range.mp hc⟩
    obtain ⟨c, rfl, hcd⟩ := hvd
    have hft := C.fits hcd
    refine qG q (by rfl) q.wd.f89.at ?_
    refine spl ?_
    refine wpAny_BinOp ?_
    refine qL q hm ?_
    refine qC (c := L + 7) q (by rfl) (f₄₁.at (by walk_at "mem")) ?_
    refine qMul q (mulSmall (by omega) (by omega)) ?_
    intro _ s₅ q₅
    refine spl ?_
    refine qC (c := L + 2) q₅ (by rfl) (f₄₁.at (by walk_at "mem")) ?_
    refine spl ?_
    refine qC (c := L + 5) q₅ (by rfl) (f₄₁.at (by walk_at "mem")) ?_
    refine spl ?_
    refine qC (c := L + 4) q₅ (by rfl) (f₄₁.at (by walk_at "mem")) ?_
    refine spn ?_
    refine ⟨q₅.wd.f89.at, ?_⟩
    refine f89 hft.1 C.n1 (by omega) hsz hN1 hft.2 hs.len (okd.le (by omega)) q₅.wd q₅.tb ?_
    intro t6 s₆ k₆
    refine ⟨⟨t6, rfl⟩, keeps_trans q₅.k (k₆.keeps ?_)⟩
    intro b hb
    rw [List.mem_singleton.mp hb]
    exact q₅.at (f₄₁.at (by walk_at "mem"))
  intro tx ys s₄₂ f₄₂ hp
  rw [List.filter_eq_self.mpr (fun _ _ => rfl)] at hp
  have f₄₃ : Fm [44, 51, 98] s L _ _ s₄₂ := (f₄₂.respec (pre := []) (sp' := .strl _) ((f₄₂.at List.mem_cons_self).to_strl (paired_txt hp)))
  clear f₄₂
  simp only [List.nil_append] at f₄₃
  -- pairs
  walk_at "go"
  refine cG f₄₃ (by rfl) f₄₃.world.f96.at ?_
  walk_at "go"
  refine ⟨f₄₃.world.f96.at, ?_⟩
  rw [eb]
  refine f96 (okd.le (by omega)) f₄₃.world f₄₃.tb hb4 hs.len ?_
  intro pr s₄₄ k₄₄ hpr hatp
  have f₄₄ := f₄₃.got k₄₄ hatp hpr
  walk_at "go"
  rename_i s₄₅ f₄₅
  -- left
  refine lcI (cl := [("divisor", L + 1)]) (fun _ => true) (fun v y => ∃ z t, y = Value.int z t ∧ 1 ≤ z ∧ z < (d : Int)) okd.h (by rfl) (by decide +kernel) (by rfl) (by decide +kernel) (by rfl) ?_
  refine Subscript_ ?_
  walk_at "x"
  refine wpAny_Slice ?_
  refine wpAny_evalPart_none ?_
  refine wpAny_evalPart_some ?_
  walk_at "x"
  refine wpAny_evalPart_none ?_
  rename_i f₄₆
  refine slE f₄₆ ?_
  intro sl3 s₄₇ f₄₇ hsl3 _
  obtain ⟨vx, hvx, hix⟩ := (f₄₇.base hw).wil
  have hvxl := ints_length hix
  refine sbL hvx ?_ [.ref sl3, .ref a] (by rfl)
  refine gLstTo (k := 6) f₄₇ hvx hix hsl3 (by omega) ?_
  intro l6 s₄₈ hl6 f₄₈
  refine ⟨_, _, _, _, _, l6, xs.take 6, rfl, f₄₈, (f₄₈.at (by walk_at "mem")).il, by rw [List.length_take]; omega, by simp, ?_, ?_, ?_⟩
  · intro C' i v t' s₃ m₃ E'' hv hc hm
    exact qNone ⟨rfl, hc.cq.k⟩
  · intro C' i v t' s₃ m₃ E'' hv _ hc hm
    have q := hc.cq
    refine wpAny_BinOp ?_
    refine qI q ?_
    intro _ _ q
    refine wpAny_BinOp ?_
    refine qL q hm ?_
    refine wpAny_BinOp ?_
    refine qC (c := L + 1) q (by rfl) (f₄₈.at (by walk_at "mem")) ?_
    refine qI q ?_
    intro _ _ q
    refine qSub q ?_
    intro _ _ q
    refine qMod q (by omega) ?_
    intro _ _ q
    refine qAdd q ?_
    intro t7 s₇ q
    have h0 := Int.fmod_nonneg_of_pos v (b := (d : Int) - 1) (by omega)
    have h1 := Int.fmod_lt_of_pos v (b := (d : Int) - 1) (by omega)
    exact ⟨⟨_, t7, rfl, by omega, by omega⟩, q.k⟩
  intro D ys' s₄₉ f₄₉ hp'
  have hlen' := paired_length hp'
  obtain ⟨zs, hzi, hzb⟩ := ints_exist (P := fun z => 1 ≤ z ∧ z < (d : Int)) (vs := ys') (fun y hy => by
    obtain ⟨_, _, z, t, e, h1, h2⟩ := paired_mem hp' y hy
    exact ⟨z, t, e, h1, h2⟩)
  have hzl : zs.length ≤ 6 := by
    rw [← ints_length hzi, hlen', List.filter_eq_self.mpr (fun _ _ => rfl), List.length_take]
    omega
  have f₅₀ := f₄₉.respec (pre := []) (sp' := .intl zs) ((f₄₉.at List.mem_cons_self).to_intl hzi)
  simp only [List.nil_append] at f₅₀
  refine cT f₅₀ (by decide) bt_list ?_
  walk_at "x"
  refine cT f₅₀ (by decide) bt_range ?_
  walk_at "go"
  rename_i f₅₁
  refine oRange2 f₅₁ ?_
  intro rg v s₅₂ hrg f₅₂
  walk_at "go"
  refine oListR okd.h f₅₂ hrg (by omega) (by omega) ?_
  intro l7 ns s₅₃ hl7 f₅₃ hnb hnl
  walk_at "b"
  refine oCatI f₅₃ (f₅₃.at (a := D) (by walk_at "mem")).il (f₅₃.at (a := l7) (by walk_at "mem")).il (by omega) ?_
  intro l8 s₅₄ hl8 f₅₄
  have hall : ∀ x ∈ zs ++ ns, 1 ≤ x ∧ x < (d : Int) := fun x hx => by
    rcases List.mem_append.mp hx with hx | hx
    · exact hzb x hx
    · exact hnb x hx
  have hall2 : (zs ++ ns).length ≤ 100 := by rw [List.length_append]; omega
  generalize zs ++ ns = ls at f₅₄ hall hall2
  walk_at "go"
  rename_i s₅₅ f₅₅
  -- the loop
  have f₅₆ : Fm [44, 51, 98] s L _ ((l8, .intl ls) :: (pr, .strl (pairTexts (psOf sg n))) :: (tx, .strl ((tlOf d n N sg Wh).map S)) :: lawCells L none d n N k Wh sg td tn tb ts tz tf tw) s₅₅ :=
    f₅₅.sub (by repeat (first | exact List.Sublist.refl _ | refine List.Sublist.cons₂ _ ?_ | refine List.Sublist.cons _ ?_))
  have f₅₇ := f₅₆.perm (List.Perm.cons _ (List.Perm.swap _ _ _))
  clear f₅₆
  refine wpAny_While ?_
  refine codeAny_whileLoop (fun i s' => ∃ (m : Str → Option Value) (lf : Addr) (ls : List Int) (sv : Option Value), i = ls.length ∧ ls.length ≤ 100 ∧ (∀ x ∈ ls, 1 ≤ x ∧ x < (d : Int)) ∧ Fm [44, 51, 98] s L m ((lf, .intl ls) :: (tx, .strl ((tlOf d n N sg Wh).map S)) :: (pr, .strl (pairTexts (psOf sg n))) :: lawCells L sv d n N k Wh sg td tn tb ts tz tf tw) s' ∧
      m "texts" = some (.ref tx) ∧ m "pairs" = some (.ref pr) ∧ m "left" = some (.ref lf)) ?_ ls.length ⟨_, l8, ls, none, rfl, hall2, hall, f₅₇, by walk_at "look", by walk_at "look", by walk_at "look"⟩
  rintro i s₆₀ ⟨m, lf, ls, sv, rfl, hlen, hls, f₆₀, h1, h2, h3⟩
  refine wpAny_isTrue_Compare1 ?_
  walk_at "x"
  refine dL (spn ?_)
  refine nwI f₆₀ .nil ?_ (by simp)
  intro le s₆₁ hle f₆₁
  obtain ⟨va, hva, hia⟩ := (f₆₁.at (a := lf) (by walk_at "mem")).intl
  obtain ⟨ve, hve, hie⟩ := (f₆₁.at (a := le) (by walk_at "mem")).intl
  refine ke_ne_ints hva.isList hve.isList hia hie (by have := okd.u; show (A.deeper (fenvC (stAt 20) 115 114 L)).units + 64 < 9900; omega) ?_
  refine wpAny_truthy_bool ?_
  replace f₆₁ := f₆₁.drop (pre := [])
  simp only [List.nil_append] at f₆₁
  by_cases hne : ls = []
  · refine iteF (by simp [hne]) ?_
    walk_at "go"
    refine wpAny_Constant_bool ?_
    exact h _ f₆₁.kp
  · refine iteT (by simp [hne]) ?_
    refine lawTurn (okd.le (by omega)) C (by omega) hn hk1 hkN' (by omega) hs hls hlen hne h1 h2 h3 f₆₁ ?_
    intro m' lf' ls' sv' s' g1 g2 g3 g4 g5 g6
    exact ⟨ls'.length, g4, m', lf', ls', sv', rfl, by omega, g5, g6, g1, g2, g3⟩
end

theorem lawOk : LawOk := fun W tb ha hx h => f115 callerOk W tb ha hx h
end Mine
theorem PySem.Challenge.cw_pk0088_01_holds : PySem.Challenge.rw_pk0088_01.Holds := by
  exact Mine.holds_of Mine.lawOk
