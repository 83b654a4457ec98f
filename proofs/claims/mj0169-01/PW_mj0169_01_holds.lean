import PyProof.Rows.All
import Wide.All
import OpenK.AllK
import Wide.FinOn
import PySem.Challenge.RW_mj0169_01
open PySem PySem.W PyProof.Rows PySem.Calls
set_option Elab.async false
set_option linter.all false
set_option linter.unusedVariables false
set_option compiler.extract_closed false
set_option maxRecDepth 100000
namespace Mine
noncomputable def wb (p : Program) : List Stmt := match (p.main.body[6]? : Option Stmt) with
  | some (.ClassDef _ _ _ b ..) => b
  | _ => []
noncomputable def fnOf (s : Option Stmt) (q : Str) (m : Value) (c : Addr) : FuncData := match s with
  | some (.FunctionDef n a b _ _ _ sc _ _ _) => { name := n, qualname := q, params := a, body := .stmts b, scope := sc, globals := 3, closure := [], defaults := .none, kwdefaults := .none, pyModule := m, code := .ref c }
  | _ => default
noncomputable def fnO (s : Option Stmt) (q : Str) (m : Value) (c : Addr) : Obj := { cls := .type "function", data := .func (fnOf s q m c) }
noncomputable def cdO (n q : Str) (t : Nat) (l k : Int) (b : Addr) (x y : Value) (e : Addr) (u : Nat) : Obj := { cls := .type "code", data := .fields #[.str n t, .str q (t + 1), .str "/claim/cut.py" (t + 2), .int l 0, .int k 0, .int 0 0, .int 0 0, .int 3 0, .ref b, .bool true, .int 181 0, .ref (b + 1), .none, x, y, .ref e, .int u 0, .int l 0, .str "/claim/cut.py" (u + 1)] }
noncomputable def en (P : Params) (k : Str) (t : Nat) (v : Value) : DictEntry := { hash := PyData.keyHash P k, key := .str k t, val := v }
noncomputable def KFp (p : Program) (P : Params) : Frag := [
  (2, { cls := .none, data := .dict #[] }),
  (3, { cls := .type "dict", data := .dict #[en P "__name__" 165 (.str ("law_mj0169_01") 339), en P "__doc__" 166 (.none), en P "__package__" 167 (.none), en P "__loader__" 168 (.builtin "__main__.__loader__#opaque"), en P "__spec__" 169 (.none), en P "__annotations__" 170 (.ref 6), en P "__builtins__" 171 (.ref 4), en P "__file__" 173 (.str ("/claim/cut.py") 172), en P "__cached__" 174 (.none), en P "_wall" 193 (.ref 21), en P "add_func_stats" 213 (.ref 28), en P "add_callers" 224 (.ref 35), en P "count_calls" 233 (.ref 42), en P "Whitespace" 338 (.ref 104), en P "_law_piece" 348 (.ref 115), en P "_law_column" 358 (.ref 122), en P "_law_caller" 367 (.ref 129), en P "_law_entry" 373 (.ref 134), en P "_law_due" 379 (.ref 139), en P "_law_first_come" 385 (.ref 144), en P "_law_sums" 396 (.ref 151), en P "_law_sums_hold" 408 (.ref 158), en P "_law_counts" 414 (.ref 163), en P "_law_comes_back" 420 (.ref 168), en P "_law_one_out_holds" 426 (.ref 173), en P "law" 432 (.ref 178)] 26 }),
  (27, cdO "add_func_stats" "add_func_stats" 196 5 2 22 (.ref 24) (.ref 25) 26 211),
  (28, fnO (p.main.body[2]?) "add_func_stats" (.str "cpy313.pstats" 194) 27),
  (34, cdO "add_callers" "add_callers" 214 9 2 29 (.ref 31) (.ref 32) 33 222),
  (35, fnO (p.main.body[3]?) "add_callers" (.str "cpy313.pstats" 194) 34),
  (41, cdO "count_calls" "count_calls" 225 22 1 36 (.ref 38) (.ref 39) 40 231),
  (42, fnO (p.main.body[4]?) "count_calls" (.str "cpy313.pstats" 194) 41),
  (58, cdO "__init__" "Whitespace.__init__" 253 31 2 53 (.ref 55) (.ref 56) 57 265),
  (59, fnO ((wb p)[1]?) "Whitespace.__init__" (.str "cpy313.tabnanny" 234) 58),
  (65, cdO "longest_run_of_spaces" "Whitespace.longest_run_of_spaces" 268 54 1 60 (.ref 62) (.ref 63) 64 274),
  (66, fnO ((wb p)[2]?) "Whitespace.longest_run_of_spaces" (.str "cpy313.tabnanny" 234) 65),
  (72, cdO "indent_level" "Whitespace.indent_level" 277 58 2 67 (.ref 69) (.ref 70) 71 286),
  (73, fnO ((wb p)[3]?) "Whitespace.indent_level" (.str "cpy313.tabnanny" 234) 72),
  (79, cdO "equal" "Whitespace.equal" 289 65 2 74 (.ref 76) (.ref 77) 78 294),
  (80, fnO ((wb p)[4]?) "Whitespace.equal" (.str "cpy313.tabnanny" 234) 79),
  (86, cdO "not_equal_witness" "Whitespace.not_equal_witness" 297 68 2 81 (.ref 83) (.ref 84) 85 305),
  (87, fnO ((wb p)[5]?) "Whitespace.not_equal_witness" (.str "cpy313.tabnanny" 234) 86),
  (93, cdO "less" "Whitespace.less" 308 76 2 88 (.ref 90) (.ref 91) 92 315),
  (94, fnO ((wb p)[6]?) "Whitespace.less" (.str "cpy313.tabnanny" 234) 93),
  (103, { cls := .type "dict", data := .dict #[en P "__module__" 243 (.str ("cpy313.tabnanny") 234), en P "__firstlineno__" 247 (.int 28 246), en P "S" 251 (.str (" ") 249), en P "T" 252 (.str ("\t") 250), en P "__init__" 267 (.ref 59), en P "longest_run_of_spaces" 276 (.ref 66), en P "indent_level" 288 (.ref 73), en P "equal" 296 (.ref 80), en P "not_equal_witness" 307 (.ref 87), en P "less" 317 (.ref 94), en P "not_less_witness" 325 (.ref 101), en P "__static_attributes__" 331 (.ref 102), en P "__dict__" 333 (.ref 105), en P "__weakref__" 335 (.ref 106), en P "__doc__" 336 (.none)] 4 }),
  (104, { cls := .type "type", data := Data.cls { name := "Whitespace", bases := [.type "object"], mro := [.ref 104, .type "object"], ns := 103, qualname := "Whitespace" }, slots := #[none, none, some (.str ("Whitespace") 236), some (.str ("Whitespace") 244), some (.builtin "object.__new__"), some (.bool true)] }),
  (114, cdO "_law_piece" "_law_piece" 341 90 1 109 (.ref 111) (.ref 112) 113 346),
  (115, fnO (p.main.body[8]?) "_law_piece" (.str "law_mj0169_01" 339) 114),
  (121, cdO "_law_column" "_law_column" 349 95 2 116 (.ref 118) (.ref 119) 120 356),
  (122, fnO (p.main.body[9]?) "_law_column" (.str "law_mj0169_01" 339) 121),
  (128, cdO "_law_caller" "_law_caller" 359 103 3 123 (.ref 125) (.ref 126) 127 365),
  (129, fnO (p.main.body[10]?) "_law_caller" (.str "law_mj0169_01" 339) 128),
  (133, cdO "_law_entry" "_law_entry" 368 107 3 130 (.none) (.none) 132 371),
  (134, fnO (p.main.body[11]?) "_law_entry" (.str "law_mj0169_01" 339) 133),
  (138, cdO "_law_due" "_law_due" 374 115 3 135 (.none) (.none) 137 377),
  (139, fnO (p.main.body[12]?) "_law_due" (.str "law_mj0169_01" 339) 138),
  (143, cdO "_law_first_come" "_law_first_come" 380 122 1 140 (.none) (.none) 142 383),
  (144, fnO (p.main.body[13]?) "_law_first_come" (.str "law_mj0169_01" 339) 143),
  (150, cdO "_law_sums" "_law_sums" 386 129 3 145 (.ref 147) (.ref 148) 149 394),
  (151, fnO (p.main.body[14]?) "_law_sums" (.str "law_mj0169_01" 339) 150),
  (157, cdO "_law_sums_hold" "_law_sums_hold" 397 134 3 152 (.ref 154) (.ref 155) 156 406),
  (158, fnO (p.main.body[15]?) "_law_sums_hold" (.str "law_mj0169_01" 339) 157),
  (162, cdO "_law_counts" "_law_counts" 409 143 2 159 (.none) (.none) 161 412),
  (163, fnO (p.main.body[16]?) "_law_counts" (.str "law_mj0169_01" 339) 162),
  (167, cdO "_law_comes_back" "_law_comes_back" 415 145 5 164 (.none) (.none) 166 418),
  (168, fnO (p.main.body[17]?) "_law_comes_back" (.str "law_mj0169_01" 339) 167),
  (172, cdO "_law_one_out_holds" "_law_one_out_holds" 421 151 3 169 (.none) (.none) 171 424),
  (173, fnO (p.main.body[18]?) "_law_one_out_holds" (.str "law_mj0169_01" 339) 172),
  (177, cdO "law" "law" 427 160 1 174 (.none) (.none) 176 430),
  (178, fnO (p.main.body[19]?) "law" (.str "law_mj0169_01" 339) 177)]
abbrev KA : List Addr := [2, 3, 27, 28, 34, 35, 41, 42, 58, 59, 65, 66, 72, 73, 79, 80, 86, 87, 93, 94, 103, 104, 114, 115, 121, 122, 128, 129, 133, 134, 138, 139, 143, 144, 150, 151, 157, 158, 162, 163, 167, 168, 172, 173, 177, 178]
noncomputable def vwOf (p : Program) : Program := { p with main := { p.main with body := p.main.body.filter (fun s => match s with | .FunctionDef .. => true | _ => false) } }
noncomputable abbrev KF (P : Params) : Frag := KFp PySem.Challenge.pw_mj0169_01 P
noncomputable abbrev vw : Program := vwOf PySem.Challenge.pw_mj0169_01
theorem ka (P : Params) : KA = (KF P).map (·.1) := by kernel_rfl
noncomputable abbrev HK : Hook := kHook KF KA ka
def Asked (p : Program) (w : World) : Prop := (openEnds treeTable p w 2120).map (fun s => (openSeen (vwOf p) [Str.ofString "Whitespace"] (importedModules p.main.body) (fun s => xlAt (vwOf p) [] s && recOk [] s) true s, KA.map s.heap.get?)) = some (openGood (vwOf p) [Str.ofString "Whitespace"], (KFp p w.params).map (fun x => some x.2))
set_option maxRecDepth 100000
set_option maxHeartbeats 80000000
lay_quick PySem.W.openEnds PySem.Challenge.pw_mj0169_01
theorem asked_f (w : World) : Asked PySem.Challenge.pw_mj0169_01 (w.withFollow "special-get-raises" false) := by
  unfold Asked
  rw [Fast.te15552708684749139287, Fast.te14364793385576792824, Fast.te4187177175401517315, Fast.te16855238342834296388]
  kernel_rfl
theorem asked_t (w : World) : Asked PySem.Challenge.pw_mj0169_01 (w.withFollow "special-get-raises" true) := by
  unfold Asked
  rw [Fast.te15552708684749139287, Fast.te14364793385576792824, Fast.te4187177175401517315, Fast.te16855238342834296388]
  kernel_rfl
theorem lft : LeftO PySem.Challenge.rw_mj0169_01.row.prog vw [Str.ofString "Whitespace"] (fun s => xlAt vw [] s && recOk (RowW.records PySem.Challenge.rw_mj0169_01.row.toRowW) s) (Hook.obs HK) (Hook.val HK) 2120 :=
  byRow2 "special-get-raises" (P := Asked PySem.Challenge.pw_mj0169_01) asked_f asked_t
local macro_rules | `(tactic| k_head) => `(tactic| refine holds_open (q := vw) (loose := [Str.ofString "Whitespace"]) (Xt := fun s => xlAt vw [] s && recOk (RowW.records PySem.Challenge.rw_mj0169_01.row.toRowW) s) (XP := XL vw []) (Yf := Hook.obs HK) (Ya := Hook.val HK) (YP := Hook.says HK) (N := 2120) lft (Hook.of HK) (Hook.keeps HK) (fun s e => xl_of s (Bool.and_eq_true_iff.mp e).1) XL.keeps (by rfl) (by rfl) (by rfl) (fun s e => recFacts_of (Bool.and_eq_true_iff.mp e).2) (by rfl) (by first | assumption | decide +kernel) (by decide +kernel) ⟨rfl, rfl, rfl, rfl, rfl, by decide +kernel⟩ ?hw ?hc)
open_top hd for PySem.Challenge.rw_mj0169_01
noncomputable abbrev Pr : Program := PySem.Challenge.rw_mj0169_01.row.prog
noncomputable abbrev KK (w : World) : Frag := KF w.params
abbrev Pt : Addr := 30
noncomputable abbrev Loo : List Str := looseW vw [Str.ofString "Whitespace"]

def Sub (k h : Heap) : Prop := ∀ b o, k.get? b = some o → h.get? b = some o
theorem Sub.refl (k : Heap) : Sub k k := fun _ _ e => e
theorem Sub.trans {a b c : Heap} (x : Sub a b) (y : Sub b c) : Sub a c := fun i o e => y i o (x i o e)

structure Gd (w : World) (s : Shared) : Prop where
  X : (KK w).In s.heap
  T : ∃ mg mb, TopRead vw Loo mg mb s.heap
  tab : ∃ ps, s.heap.IsCode 34 Pt ps ∧ s.heap.TableAt 34 Pt ps
  bm : ∃ mg bm ob, BMod s.heap mainGlobals mg bm ob
  bare : AllBare s.gens

structure Kp (s s' : Shared) : Prop where
  keep : ∀ b o, b ≠ Pt → s.heap.get? b = some o → s'.heap.get? b = some o
  os : s'.os = s.os
  bare : AllBare s.gens → AllBare s'.gens
  tab : ∀ ps, s.heap.IsCode 34 Pt ps → s.heap.TableAt 34 Pt ps → ∃ more, s'.heap.IsCode 34 Pt (ps ++ more) ∧ s'.heap.TableAt 34 Pt (ps ++ more)

theorem isCode_two {h h' : Heap} {c P : Addr} {ps : Array Value} (x : h.IsCode c P ps) (hc : ∀ o, h.get? c = some o → h'.get? c = some o) (hP : ∀ o, h.get? P = some o → h'.get? P = some o) : h'.IsCode c P ps :=
  let ⟨o, vs, file, tf, flags, tg, inF, text, tt, op, a, r1, r2, r3, r4, r5, r6, b, r⟩ := x
  ⟨o, vs, file, tf, flags, tg, inF, text, tt, op, hc _ a, r1, r2, r3, r4, r5, r6, hP _ b, r⟩
theorem tableAt_two {h h' : Heap} {c P : Addr} {ps : Array Value} (x : h.TableAt c P ps) (hc : ∀ o, h.get? c = some o → h'.get? c = some o) (hP : ∀ o, h.get? P = some o → h'.get? P = some o) : h'.TableAt c P ps :=
  let ⟨⟨o, vs, e, r⟩, t⟩ := x; ⟨⟨o, vs, hc _ e, r⟩, hP _ t⟩

theorem topRead_but {mg mb : Str → Option Value} {h h' : Heap} (T : TopRead vw Loo mg mb h) (hk : ∀ b o, b ≠ Pt → h.get? b = some o → h'.get? b = some o) : TopRead vw Loo mg mb h' := by
  have ns : ∀ {a : Addr} {m : Str → Option Value}, a ≠ Pt → h.Ns a m → h'.Ns a m := fun ha x => let ⟨o, es, ep, e, r⟩ := x; ⟨o, es, ep, hk _ _ ha e, r⟩
  refine ⟨ns (by decide) T.g, ns (by decide) T.b, ?_, T.builtins, T.free⟩
  obtain ⟨mc, a, b⟩ := T.nolimit
  exact ⟨mc, ns (by decide) a, b⟩
theorem frag_ne (w : World) : ∀ a o, (KK w).lookup a = some o → a ≠ Pt := by
  intro a o e q
  subst q
  have : (KK w).lookup Pt = none := by rfl
  rw [this] at e; cases e

theorem bmod_but {h h' : Heap} {g bm c : Addr} {mg : Str → Option Value} {ob : Obj} {ps : Array Value} (M : BMod h g mg bm ob) (t : h.TableAt c Pt ps) (hk : ∀ b o, b ≠ Pt → h.get? b = some o → h'.get? b = some o) : BMod h' g mg bm ob :=
  ⟨let ⟨o, es, ep, e, r⟩ := M.ns; ⟨o, es, ep, hk _ _ (M.apart t).1 e, r⟩, M.name, M.ne, hk _ _ (M.apart t).2 M.obj, M.cls, M.dict, M.data⟩
theorem Gd.move {w : World} {s s' : Shared} (g : Gd w s) (hk : ∀ b o, b ≠ Pt → s.heap.get? b = some o → s'.heap.get? b = some o)
    (ht : ∃ ps, s'.heap.IsCode 34 Pt ps ∧ s'.heap.TableAt 34 Pt ps) (hb : AllBare s'.gens) : Gd w s' :=
  ⟨fun a o e => hk a o (frag_ne w a o e) (g.X a o e), let ⟨mg, mb, T⟩ := g.T; ⟨mg, mb, topRead_but T hk⟩, ht, let ⟨mg, bm, ob, M⟩ := g.bm; let ⟨_, _, t⟩ := g.tab; ⟨mg, bm, ob, bmod_but M t hk⟩, hb⟩
theorem Gd.keeps {w : World} {s s' : Shared} (g : Gd w s) (hk : Keeps s s') : Gd w s' := by
  obtain ⟨h', tk, rfl, hk⟩ := hk
  obtain ⟨ps, a, b⟩ := g.tab
  exact g.move (fun b o _ e => hk b o e) ⟨ps, a.keeps hk, b.keeps hk⟩ g.bare
theorem Gd.kp {w : World} {s s' : Shared} (g : Gd w s) (hk : Kp s s') : Gd w s' := by
  obtain ⟨ps, a, b⟩ := g.tab
  obtain ⟨more, a', b'⟩ := hk.tab ps a b
  exact g.move hk.keep ⟨_, a', b'⟩ (hk.bare g.bare)

structure Rel (w : World) (R : Shared → Shared → Prop) : Prop where
  refl : ∀ s, R s s
  trans : ∀ {a b c}, R a b → R b c → R a c
  keeps : ∀ {a b}, Keeps a b → R a b
  upd : ∀ {s₀ s : Shared} {h' : Heap} {tk : Nat}, Gd w s₀ → R s₀ s → (∀ b o, (s₀.heap.get? b).isSome = true → s.heap.get? b = some o → h'.get? b = some o) → R s₀ { s with heap := h', toks := tk }
  old : ∀ {s₀ s : Shared}, R s₀ s → ∀ b o, b ≠ Pt → s₀.heap.get? b = some o → s.heap.get? b = some o
  gd : ∀ {s₀ s : Shared}, R s₀ s → Gd w s₀ → Gd w s

theorem Keeps.rfl' (s : Shared) : Keeps s s := ⟨s.heap, s.toks, rfl, fun _ _ e => e⟩
theorem Keeps.tr {a b c : Shared} (x : Keeps a b) (y : Keeps b c) : Keeps a c := by
  obtain ⟨h1, t1, rfl, k1⟩ := x
  obtain ⟨h2, t2, rfl, k2⟩ := y
  exact ⟨h2, t2, rfl, fun b o e => k2 b o (k1 b o e)⟩
theorem relKeeps (w : World) : Rel w Keeps where
  refl := Keeps.rfl'
  trans := Keeps.tr
  keeps := id
  upd := by
    rintro s₀ s h' tk _ ⟨h1, t1, rfl, k1⟩ hk
    exact ⟨h', tk, rfl, fun b o e => hk b o (by rw [e]; rfl) (k1 b o e)⟩
  old := by
    rintro s₀ s ⟨h1, t1, rfl, k1⟩ b o _ e
    exact k1 b o e
  gd := fun k g => g.keeps k
theorem Kp.of_keeps {a b : Shared} (x : Keeps a b) : Kp a b := by
  obtain ⟨h1, t1, rfl, k1⟩ := x
  exact ⟨fun b o _ e => k1 b o e, rfl, id, fun ps a b => ⟨#[], by simpa using a.keeps k1, by simpa using b.keeps k1⟩⟩
theorem relKp (w : World) : Rel w Kp where
  refl := fun s => Kp.of_keeps (Keeps.rfl' s)
  trans := fun x y => ⟨fun b o n e => y.keep b o n (x.keep b o n e), y.os.trans x.os, fun g => y.bare (x.bare g), fun ps a b => by
    obtain ⟨m1, a1, b1⟩ := x.tab ps a b
    obtain ⟨m2, a2, b2⟩ := y.tab _ a1 b1
    exact ⟨m1 ++ m2, by rw [← Array.append_assoc]; exact a2, by rw [← Array.append_assoc]; exact b2⟩⟩
  keeps := Kp.of_keeps
  upd := by
    intro s₀ s h' tk g x hk
    refine ⟨fun b o n e => hk b o (by rw [e]; rfl) (x.keep b o n e), x.os, x.bare, fun ps a b => ?_⟩
    obtain ⟨m1, a1, b1⟩ := x.tab ps a b
    have l1 : (s₀.heap.get? 34).isSome = true := by obtain ⟨⟨_, _, q, _⟩, _⟩ := b; rw [q]; rfl
    have l2 : (s₀.heap.get? Pt).isSome = true := by obtain ⟨_, q⟩ := b; rw [q]; rfl
    exact ⟨m1, isCode_two a1 (fun o e => hk _ o l1 e) fun o e => hk _ o l2 e, tableAt_two b1 (fun o e => hk _ o l1 e) fun o e => hk _ o l2 e⟩
  old := fun x => x.keep
  gd := fun x g => g.kp x

noncomputable def up (m : Str → Option Value) (x : Str) (v : Value) : Str → Option Value := fun y => if y = x then some v else m y
theorem up_same {m : Str → Option Value} {x : Str} {v : Value} : up m x v x = some v := if_pos rfl
theorem up_ne {m : Str → Option Value} {x y : Str} {v : Value} {r : Option Value} (h : (y == x) = false) (e : m y = r) : up m x v y = r := by
  unfold up; rw [if_neg (by intro q; rw [q] at h; simp at h)]; exact e

theorem some_lt {h : Heap} {b : Addr} (e : (h.get? b).isSome = true) : b < h.objs.size := by
  obtain ⟨o, q⟩ := Option.isSome_iff_exists.mp e
  exact Heap.lt_size q
structure Fm (w : World) (R : Shared → Shared → Prop) (s₀ : Shared) (k₀ : Heap) (L : Addr) (m : Str → Option Value) (k : Heap) (mu : List (Addr × Obj)) (s : Shared) : Prop where
  hR : Rel w R
  g₀ : Gd w s₀
  ns : s.heap.Ns L m
  rel : R s₀ s
  new : s₀.heap.objs.size ≤ L
  led : Sub k s.heap
  ext : Sub k₀ k
  fresh : ∀ b o, k.get? b = some o → k₀.get? b = some o ∨ s₀.heap.objs.size ≤ b
  kL : k.get? L = none
  kP : k.get? Pt = none
  mt : ∀ p ∈ mu, s.heap.get? p.1 = some p.2 ∧ p.1 ≠ L ∧ k.get? p.1 = none ∧ s₀.heap.objs.size ≤ p.1
  nd : (mu.map (·.1)).Nodup

section
variable {w : World} {R : Shared → Shared → Prop} {s₀ s s' : Shared} {L : Addr} {m m' : Str → Option Value} {k₀ k k' : Heap} {mu : List (Addr × Obj)}

theorem Gd.pt_lt (g : Gd w s₀) : Pt < s₀.heap.objs.size := by
  obtain ⟨ps, a, _⟩ := g.tab
  exact a.lt.2
theorem Fm.gd (F : Fm w R s₀ k₀ L m k mu s) : Gd w s := F.hR.gd F.rel F.g₀
theorem Fm.L_lt (F : Fm w R s₀ k₀ L m k mu s) : L < s.heap.objs.size := F.ns.lt
theorem Fm.size_le (F : Fm w R s₀ k₀ L m k mu s) : s₀.heap.objs.size ≤ s.heap.objs.size := Nat.le_of_lt (Nat.lt_of_le_of_lt F.new F.L_lt)
theorem Fm.L_ne (F : Fm w R s₀ k₀ L m k mu s) : L ≠ Pt := Nat.ne_of_gt (Nat.lt_of_lt_of_le F.g₀.pt_lt F.new)
theorem Fm.mut_ne (F : Fm w R s₀ k₀ L m k mu s) {p : Addr × Obj} (hp : p ∈ mu) : p.1 ≠ Pt := Nat.ne_of_gt (Nat.lt_of_lt_of_le F.g₀.pt_lt (F.mt p hp).2.2.2)

theorem Fm.step (F : Fm w R s₀ k₀ L m k mu s) {h' : Heap} {tk : Nat} (hk : ∀ b o, s.heap.get? b = some o → (b < s₀.heap.objs.size ∨ k.get? b = some o ∨ b = L ∨ (b, o) ∈ mu) → h'.get? b = some o) :
    Fm w R s₀ k₀ L m k mu { s with heap := h', toks := tk } where
  hR := F.hR
  g₀ := F.g₀
  ns := let ⟨o, es, ep, e, r⟩ := F.ns; ⟨o, es, ep, hk _ _ e (.inr (.inr (.inl rfl))), r⟩
  rel := F.hR.upd F.g₀ F.rel fun b o l e => hk b o e (.inl (some_lt l))
  new := F.new
  led := fun b o e => hk b o (F.led b o e) (.inr (.inl e))
  ext := F.ext
  fresh := F.fresh
  kL := F.kL
  kP := F.kP
  mt := fun p hp => ⟨hk _ _ (F.mt p hp).1 (.inr (.inr (.inr hp))), (F.mt p hp).2⟩
  nd := F.nd
theorem Fm.tok (F : Fm w R s₀ k₀ L m k mu s) (t : Nat) : Fm w R s₀ k₀ L m k mu { s with toks := t } := F.step fun _ _ e _ => e
theorem Fm.keeps (F : Fm w R s₀ k₀ L m k mu s) (hk : Keeps s s') : Fm w R s₀ k₀ L m k mu s' := by
  obtain ⟨h', tk, rfl, hk⟩ := hk
  exact F.step fun b o e _ => hk b o e
theorem Fm.grow (F : Fm w R s₀ k₀ L m k mu s) {h' : Heap} {tk : Nat} (hk : Sub s.heap h') : Fm w R s₀ k₀ L m k mu { s with heap := h', toks := tk } := F.step fun b o e _ => hk b o e

theorem Fm.store (F : Fm w R s₀ k₀ L m k mu s) {h' : Heap} {tk : Nat} (hn : h'.Ns L m') (hs : Heap.SameBut L s.heap h') : Fm w R s₀ k₀ L m' k mu { s with heap := h', toks := tk } where
  hR := F.hR
  g₀ := F.g₀
  ns := hn
  rel := F.hR.upd F.g₀ F.rel fun b o l e => (hs.2 b (Nat.ne_of_lt (Nat.lt_of_lt_of_le (some_lt l) F.new))).trans e
  new := F.new
  led := fun b o e => (hs.2 b (by rintro rfl; rw [F.kL] at e; cases e)).trans (F.led b o e)
  ext := F.ext
  fresh := F.fresh
  kL := F.kL
  kP := F.kP
  mt := fun p hp => ⟨(hs.2 _ (F.mt p hp).2.1).trans (F.mt p hp).1, (F.mt p hp).2⟩
  nd := F.nd

theorem Fm.back (F : Fm w R s₀ k₀ L m k mu s) (hr : R s s') (h1 : Sub k k') (h2 : ∀ b o, k'.get? b = some o → k.get? b = some o ∨ s.heap.objs.size ≤ b) (h3 : Sub k' s'.heap) (h4 : k'.get? Pt = none) :
    Fm w R s₀ k₀ L m k' mu s' where
  hR := F.hR
  g₀ := F.g₀
  ns := let ⟨o, es, ep, e, r⟩ := F.ns; ⟨o, es, ep, F.hR.old hr _ _ F.L_ne e, r⟩
  rel := F.hR.trans F.rel hr
  new := F.new
  led := h3
  ext := F.ext.trans h1
  fresh := fun b o e => by
    rcases h2 b o e with q | q
    · exact F.fresh b o q
    · exact .inr (Nat.le_trans F.size_le q)
  kL := by
    cases q : k'.get? L with
    | none => rfl
    | some o => rcases h2 L o q with e | e
                · rw [F.kL] at e; cases e
                · exact absurd F.L_lt (Nat.not_lt.mpr e)
  kP := h4
  mt := fun p hp => by
    obtain ⟨a, b, c, d⟩ := F.mt p hp
    refine ⟨F.hR.old hr _ _ (F.mut_ne hp) a, b, ?_, d⟩
    cases q : k'.get? p.1 with
    | none => rfl
    | some o => rcases h2 p.1 o q with e | e
                · rw [c] at e; cases e
                · exact absurd (Heap.lt_size a) (Nat.not_lt.mpr e)
  nd := F.nd

theorem Fm.push (F : Fm w R s₀ k₀ L m k mu s) (o : Obj) (hf : o.isFreed = false := by rfl) : Fm w R s₀ k₀ L m k ((s.heap.objs.size, o) :: mu) { s with heap := s.heap.push o } where
  hR := F.hR
  g₀ := F.g₀
  ns := F.ns.push o
  rel := F.hR.upd (tk := s.toks) F.g₀ F.rel fun b o' _ e => Heap.get?_push_of_some _ e
  new := F.new
  led := fun b o' e => Heap.get?_push_of_some _ (F.led b o' e)
  ext := F.ext
  fresh := F.fresh
  kL := F.kL
  kP := F.kP
  mt := fun p hp => by
    rcases List.mem_cons.mp hp with rfl | hp
    · refine ⟨Heap.get?_push_size _ hf, Nat.ne_of_gt F.L_lt, ?_, F.size_le⟩
      cases q : k.get? s.heap.objs.size with
      | none => rfl
      | some o' => exact absurd (Heap.lt_size (F.led _ _ q)) (Nat.lt_irrefl _)
    · exact ⟨Heap.get?_push_of_some _ (F.mt p hp).1, (F.mt p hp).2⟩
  nd := by
    rw [List.map_cons, List.nodup_cons]
    refine ⟨fun q => ?_, F.nd⟩
    obtain ⟨p, hp, e⟩ := List.mem_map.mp q
    exact absurd (Heap.lt_size (F.mt p hp).1) (e ▸ Nat.lt_irrefl _)

theorem Fm.turn {d : Addr} {o o' : Obj} (F : Fm w R s₀ k₀ L m k ((d, o) :: mu) s) {h' : Heap} {tk : Nat} (hs : Heap.SameBut d s.heap h') (ho : h'.get? d = some o') :
    Fm w R s₀ k₀ L m k ((d, o') :: mu) { s with heap := h', toks := tk } where
  hR := F.hR
  g₀ := F.g₀
  ns := F.ns.sameBut hs (Ne.symm (F.mt _ (.head _)).2.1)
  rel := F.hR.upd F.g₀ F.rel fun b o l e => (hs.2 b (Nat.ne_of_lt (Nat.lt_of_lt_of_le (some_lt l) (F.mt _ (.head _)).2.2.2))).trans e
  new := F.new
  led := fun b o e => (hs.2 b (by rintro rfl; have q := (F.mt _ (.head _)).2.2.1; dsimp only at q; rw [q] at e; cases e)).trans (F.led b o e)
  ext := F.ext
  fresh := F.fresh
  kL := F.kL
  kP := F.kP
  mt := fun p hp => by
    rcases List.mem_cons.mp hp with rfl | hp
    · exact ⟨ho, (F.mt _ (.head _)).2⟩
    · have nd := F.nd
      rw [List.map_cons, List.nodup_cons] at nd
      exact ⟨(hs.2 _ fun q => nd.1 (List.mem_map.mpr ⟨p, hp, q⟩)).trans (F.mt p (.tail _ hp)).1, (F.mt p (.tail _ hp)).2⟩
  nd := F.nd

theorem Fm.perm {mu' : List (Addr × Obj)} (F : Fm w R s₀ k₀ L m k mu s) (hs : ∀ p ∈ mu', p ∈ mu) (hn : (mu'.map (·.1)).Nodup) : Fm w R s₀ k₀ L m k mu' s :=
  ⟨F.hR, F.g₀, F.ns, F.rel, F.new, F.led, F.ext, F.fresh, F.kL, F.kP, fun p hp => F.mt p (hs p hp), hn⟩
theorem Fm.drop {p : Addr × Obj} (F : Fm w R s₀ k₀ L m k (p :: mu) s) : Fm w R s₀ k₀ L m k mu s :=
  F.perm (fun _ h => .tail _ h) (List.nodup_cons.mp F.nd).2
theorem Fm.swap {p q : Addr × Obj} (F : Fm w R s₀ k₀ L m k (p :: q :: mu) s) : Fm w R s₀ k₀ L m k (q :: p :: mu) s :=
  F.perm (fun x h => by
    rcases List.mem_cons.mp h with rfl | h
    · exact .tail _ (.head _)
    · rcases List.mem_cons.mp h with rfl | h
      · exact .head _
      · exact .tail _ (.tail _ h)) (by
    have nd := F.nd
    simp only [List.map_cons, List.nodup_cons, List.mem_cons, not_or] at nd ⊢
    exact ⟨⟨Ne.symm nd.1.1, nd.2.1⟩, nd.1.2, nd.2.2⟩)

noncomputable def add (k : Heap) (s : Shared) (d : Addr) : Heap := hideAll s.heap ((List.range s.heap.objs.size).filter fun b => (k.get? b).isNone && b != d)
theorem add_heap {d : Addr} : Sub (add k s d) s.heap := fun _ _ e => of_hideAll _ e
theorem add_inv {d b : Addr} {o : Obj} (hk : Sub k s.heap) (e : (add k s d).get? b = some o) : k.get? b = some o ∨ b = d := by
  by_cases hb : b = d
  · exact .inr hb
  · refine .inl ?_
    cases q : k.get? b with
    | none =>
      have : (add k s d).get? b = none := hideAll_none _ (List.mem_filter.mpr ⟨List.mem_range.mpr (Heap.lt_size (add_heap _ _ e)), by simp [q, hb]⟩)
      rw [this] at e; cases e
    | some o' =>
      have := hk _ _ q
      rw [add_heap _ _ e] at this; exact this.symm
theorem add_sub {d : Addr} (hk : Sub k s.heap) : Sub k (add k s d) := fun b o e => hideAll_get _ (hk b o e) fun q => by
  have := (List.mem_filter.mp q).2
  simp [e] at this
theorem add_self {d : Addr} {o : Obj} (e : s.heap.get? d = some o) : (add k s d).get? d = some o := hideAll_get _ e fun q => by
  have := (List.mem_filter.mp q).2
  simp at this
theorem Fm.freeze {d : Addr} {o : Obj} (F : Fm w R s₀ k₀ L m k ((d, o) :: mu) s) : ∃ k', Sub k k' ∧ k'.get? d = some o ∧ Fm w R s₀ k₀ L m k' mu s := by
  obtain ⟨a, b, c, e⟩ := F.mt _ (.head _)
  refine ⟨add k s d, add_sub F.led, add_self a, ⟨F.hR, F.g₀, F.ns, F.rel, F.new, add_heap, F.ext.trans (add_sub F.led), fun x o q => ?_, ?_, ?_, fun p hp => ⟨(F.mt p (.tail _ hp)).1, (F.mt p (.tail _ hp)).2.1, ?_, (F.mt p (.tail _ hp)).2.2.2⟩, (List.nodup_cons.mp F.nd).2⟩⟩
  · rcases add_inv F.led q with q | q
    · exact F.fresh x o q
    · exact .inr (q ▸ e)
  · cases q : (add k s d).get? L with
    | none => rfl
    | some o' => rcases add_inv F.led q with q | q
                 · rw [F.kL] at q; cases q
                 · exact absurd q.symm b
  · cases q : (add k s d).get? Pt with
    | none => rfl
    | some o' => rcases add_inv F.led q with q | q
                 · rw [F.kP] at q; cases q
                 · exact absurd q.symm (F.mut_ne (.head _))
  · cases q : (add k s d).get? p.1 with
    | none => rfl
    | some o' => rcases add_inv F.led q with q | q
                 · rw [(F.mt p (.tail _ hp)).2.2.1] at q; cases q
                 · exact absurd (List.mem_map.mpr ⟨p, hp, q⟩) (List.nodup_cons.mp F.nd).1
end

noncomputable def ents (k h₀ : Heap) : List (Addr × Obj) := (List.range k.objs.size).filterMap fun b => match h₀.get? b with | some _ => none | none => (k.get? b).map fun o => (b, o)
theorem ents_mem {k h₀ : Heap} {p : Addr × Obj} : p ∈ ents k h₀ ↔ k.get? p.1 = some p.2 ∧ h₀.get? p.1 = none := by
  unfold ents
  rw [List.mem_filterMap]
  constructor
  · rintro ⟨b, hb, e⟩
    split at e
    · cases e
    · rename_i q
      obtain ⟨o, ho, rfl⟩ := Option.map_eq_some_iff.mp e
      exact ⟨ho, q⟩
  · rintro ⟨a, b⟩
    refine ⟨p.1, List.mem_range.mpr (Heap.lt_size a), ?_⟩
    simp [a, b]
section
variable {w : World} {R : Shared → Shared → Prop} {s₀ s s' : Shared} {L : Addr} {m m' : Str → Option Value} {k₀ k k' : Heap} {mu mu' : List (Addr × Obj)}
theorem Fm.fr (F : Fm w R s₀ k₀ L m k mu s) : Fr (s₀.heap.hide Pt) L s.heap m :=
  ⟨F.ns, fun b o e => F.hR.old F.rel b o (by rintro rfl; rw [Heap.hide_self] at e; cases e) (Heap.of_hide e), by rw [Heap.hide_size]; exact F.new⟩
theorem Fm.K₀ (F : Fm w R s₀ k₀ L m k mu s) : (KK w).In (s₀.heap.hide Pt) := fun a o e => (Heap.hide_ne _ (frag_ne w a o e)).trans (F.g₀.X a o e)
theorem Fm.news (F : Fm w R s₀ k₀ L m k mu s) : ∃ ot, s.heap.get? Pt = some ot ∧ News (s₀.heap.hide Pt) L s.heap (mu ++ (Pt, ot) :: ents k (s₀.heap.hide Pt)) := by
  obtain ⟨ps, _, t⟩ := F.gd.tab
  refine ⟨_, t.2, fun p hp => ?_⟩
  rcases List.mem_append.mp hp with hp | hp
  · obtain ⟨a, b, c, d⟩ := F.mt p hp
    refine ⟨a, b, ?_⟩
    cases q : (s₀.heap.hide Pt).get? p.1 with
    | none => rfl
    | some o => exact absurd (Heap.lt_size (Heap.of_hide q)) (Nat.not_lt.mpr d)
  · rcases List.mem_cons.mp hp with rfl | hp
    · exact ⟨t.2, Ne.symm F.L_ne, Heap.hide_self _ _⟩
    · obtain ⟨a, b⟩ := ents_mem.mp hp
      exact ⟨F.led _ _ a, (fun q => by rw [q, F.kL] at a; cases a), b⟩
theorem Fm.of (F : Fm w R s₀ k₀ L m k mu s) {h' : Heap} {tk : Nat} {ot : Obj} (ht : s.heap.get? Pt = some ot) (F' : Fr (s₀.heap.hide Pt) L h' m') (N' : News (s₀.heap.hide Pt) L h' (mu' ++ (Pt, ot) :: ents k (s₀.heap.hide Pt)))
    (hn : (mu'.map (·.1)).Nodup) (ho : ∀ p ∈ mu', k.get? p.1 = none ∧ s₀.heap.objs.size ≤ p.1) : Fm w R s₀ k₀ L m' k mu' { s with heap := h', toks := tk } where
  hR := F.hR
  g₀ := F.g₀
  ns := F'.ns
  rel := F.hR.upd F.g₀ F.rel fun b o l e => by
    by_cases hb : b = Pt
    · subst hb
      rw [ht] at e; cases e
      exact (N' (Pt, ot) (by simp)).1
    · obtain ⟨o', q⟩ := Option.isSome_iff_exists.mp l
      have := F.hR.old F.rel b o' hb q
      rw [e] at this; cases this
      exact F'.keep b o ((Heap.hide_ne _ hb).trans q)
  new := F.new
  led := fun b o e => by
    cases q : (s₀.heap.hide Pt).get? b with
    | none => exact (N' (b, o) (List.mem_append_right _ (.tail _ (ents_mem.mpr ⟨e, q⟩)))).1
    | some o' =>
      have h1 := F.fr.keep b o' q
      rw [F.led b o e] at h1; cases h1
      exact F'.keep b o q
  ext := F.ext
  fresh := F.fresh
  kL := F.kL
  kP := F.kP
  mt := fun p hp => ⟨(N' p (List.mem_append_left _ hp)).1, (N' p (List.mem_append_left _ hp)).2.1, (ho p hp).1, (ho p hp).2⟩
  nd := hn
theorem Fm.same (F : Fm w R s₀ k₀ L m k mu s) {h' : Heap} {tk : Nat} {ot : Obj} (ht : s.heap.get? Pt = some ot) (F' : Fr (s₀.heap.hide Pt) L h' m') (N' : News (s₀.heap.hide Pt) L h' (mu ++ (Pt, ot) :: ents k (s₀.heap.hide Pt))) :
    Fm w R s₀ k₀ L m' k mu { s with heap := h', toks := tk } := F.of ht F' N' F.nd fun p hp => ⟨(F.mt p hp).2.2.1, (F.mt p hp).2.2.2⟩
theorem Fm.more (F : Fm w R s₀ k₀ L m k mu s) {h' : Heap} {tk : Nat} {ot o : Obj} {d : Addr} (ht : s.heap.get? Pt = some ot) (F' : Fr (s₀.heap.hide Pt) L h' m') (N' : News (s₀.heap.hide Pt) L h' ((d, o) :: (mu ++ (Pt, ot) :: ents k (s₀.heap.hide Pt))))
    (hd : s.heap.objs.size ≤ d) : Fm w R s₀ k₀ L m' k ((d, o) :: mu) { s with heap := h', toks := tk } := by
  refine F.of ht F' N' ?_ fun p hp => ?_
  · rw [List.map_cons, List.nodup_cons]
    refine ⟨fun q => ?_, F.nd⟩
    obtain ⟨p, hp, e⟩ := List.mem_map.mp q
    exact absurd (Heap.lt_size (F.mt p hp).1) (Nat.not_lt.mpr (e ▸ hd))
  · rcases List.mem_cons.mp hp with rfl | hp
    · refine ⟨?_, Nat.le_trans F.size_le hd⟩
      cases q : k.get? d with
      | none => rfl
      | some o' => exact absurd (Heap.lt_size (F.led _ _ q)) (Nat.not_lt.mpr hd)
    · exact ⟨(F.mt p hp).2.2.1, (F.mt p hp).2.2.2⟩
end

structure Cx (w : World) (k : Heap) (s : Shared) : Prop where
  g : Gd w s
  sub : Sub k s.heap
  kP : k.get? Pt = none
theorem Fm.cx {w : World} {R : Shared → Shared → Prop} {s₀ s : Shared} {L : Addr} {m : Str → Option Value} {k₀ k : Heap} {mu : List (Addr × Obj)} (F : Fm w R s₀ k₀ L m k mu s) : Cx w k s := ⟨F.gd, F.led, F.kP⟩
def Ret (R : Shared → Shared → Prop) (s : Shared) (k : Heap) (Out : Heap → Value → Prop) (v : Value) (s' : Shared) : Prop :=
  R s s' ∧ ∃ k', Sub k k' ∧ (∀ b o, k'.get? b = some o → k.get? b = some o ∨ s.heap.objs.size ≤ b) ∧ Sub k' s'.heap ∧ k'.get? Pt = none ∧ Out k' v

section
variable {w : World} {R : Shared → Shared → Prop} {s₀ s s' : Shared} {L : Addr} {m m' : Str → Option Value} {k₀ k k' : Heap} {mu : List (Addr × Obj)} {A : Around} {E : Value → Shared → Prop}
theorem Ret.of {Out : Heap → Value → Prop} {v : Value} (F : Fm w R s₀ k₀ L m k mu s) (h : Out k v) : Ret R s₀ k₀ Out v s := ⟨F.rel, k, F.ext, F.fresh, F.led, F.kP, h⟩
theorem Ret.use {Out : Heap → Value → Prop} {v : Value} (r : Ret R s k Out v s') (F : Fm w R s₀ k₀ L m k mu s) : ∃ k', Sub k k' ∧ Out k' v ∧ Fm w R s₀ k₀ L m k' mu s' := by
  obtain ⟨r1, k', a, b, c, d, e⟩ := r
  exact ⟨k', a, e, F.back r1 a b c d⟩
structure Ar (A : Around) (n : Nat) : Prop where
  hd : A.handled = none
  dp : A.depth + n < recursionLimit
  un : A.units + 20 * n + 20 < cLine
theorem Ar.le {n n' : Nat} (a : Ar A n) (h : n' ≤ n) : Ar A n' := ⟨a.hd, by have := a.dp; omega, by have := a.un; omega⟩
theorem Ar.deeper {n : Nat} {env : Env} (a : Ar A (n + 1)) : Ar (A.deeper env) n := ⟨a.hd, by have := a.dp; show A.depth + 1 + n < _; omega, by have := a.un; show A.units + 3 + 20 * n + 20 < _; omega⟩
theorem Ar.room {n : Nat} (a : Ar A n) : A.depth < recursionLimit := by have := a.dp; omega
theorem Ar.units {n : Nat} (a : Ar A n) : A.units < cLine := by have := a.un; omega

def Fin (Q : Value → Shared → Prop) (fl : Flow) (s' : Shared) : Prop := Q (match fl with | .ret v => v | _ => .none) s'
theorem Fin.ret {Q : Value → Shared → Prop} {v : Value} (h : Q v s) : Fin Q (.ret v) s := h
theorem Fin.next {Q : Value → Shared → Prop} (h : Q .none s) : Fin Q .next s := h
theorem enter {f : Addr} {n : Nat} {fd : FuncData} {body : List Stmt} {oc : Value} {od : Option Addr} {osl : Array (Option Value)} {args : List Value} {binds : List (Str × Value)} {Q : Value → Shared → Prop} (hR : Rel w R) (C : Cx w k s) (a : Ar A (n + 1))
    (ho : (KK w).lookup f = some ⟨oc, od, .func fd, osl⟩) (hcd : codeIn (KK w) fd.code fd.qualname = true) (hbody : fd.body = .stmts body) (hbind : BindsTo s fd ⟨args, []⟩ binds)
    (hcell : ∀ x ∈ fd.scope.names, x.2 ≠ .cell) (hloc : ∀ x ∈ binds, fd.scope.names.lookup x.1 = some .local)
    (h : ∀ A' L s₁, Ar A' n → Fm w R s k L (fun x => binds.reverse.lookup x) k [] s₁ → wpAny (model Pr w) A' (execs body (callEnv fd L f)) (Fin Q) (fun _ _ => False) s₁)
    (hco : fd.scope.isCoroutine = false := by rfl) (hgen : fd.scope.isGenerator = false := by rfl) (hk : fd.scope.kind = .function := by rfl) :
    wpAny (model Pr w) A (call (.ref f) args) Q (fun _ _ => False) s := by
  obtain ⟨mg, mb, T⟩ := C.g.T
  refine wpAny_call (codeAny_call_def a.room (C.g.X _ _ ho) rfl T.nolimit (codeRec_of C.g.X hcd) hbody hbind hcell hloc (fun h₀ hns hk₀ => ?_) hco hgen hk)
  have F : Fm w R s k s.heap.objs.size (fun x => binds.reverse.lookup x) k [] { s with heap := h₀, toks := s.toks + binds.length } := by
    refine ⟨hR, C.g, hns, hR.keeps ⟨h₀, _, rfl, hk₀⟩, Nat.le_refl _, fun b o e => hk₀ b o (C.sub b o e), Sub.refl k, fun _ _ e => .inl e, ?_, C.kP, fun p hp => (nomatch hp), List.nodup_nil⟩
    cases q : k.get? s.heap.objs.size with
    | none => rfl
    | some o => exact absurd (Heap.lt_size (C.sub _ _ q)) (Nat.lt_irrefl _)
  exact wpAny_mono (h _ _ _ a.deeper F) (fun _ _ x => x) fun _ _ x => x.elim
end
section
variable {w : World} {R : Shared → Shared → Prop} {s₀ s s' : Shared} {L : Addr} {m m' : Str → Option Value} {k₀ k k' : Heap} {mu mu' : List (Addr × Obj)} {A : Around} {E : Value → Shared → Prop} {env : Env}

theorem e_loc {x : Str} {pos : Pos} {v : Value} {Q : Value → Shared → Prop} (F : Fm w R s₀ k₀ L m k mu s) (hv : m x = some v) (h : Q v s) (hL : env.locals = L := by rfl) (hk : env.scope.kind = .function := by rfl)
    (hl : env.kindOf x = some .local := by rfl) (hd : (x == ("__debug__" : Str)) = false := by decide) : wpAny (model Pr w) A (eval (.Name x pos) env) Q E s := by
  subst hL
  exact wpAny_Name (wpAny_loadName_local hk hl F.ns hv h) hd
theorem e_glob {x : Str} {pos : Pos} {v : Value} {Q : Value → Shared → Prop} (F : Fm w R s₀ k₀ L m k mu s) (e : nsIn (KK w) mainGlobals x = some (some v)) (h : Q v s) (hg : env.globals = mainGlobals := by rfl)
    (hk : env.scope.kind = .function := by rfl) (hl : env.kindOf x = some .globalImplicit := by rfl) (hd : (x == ("__debug__" : Str)) = false := by decide) : wpAny (model Pr w) A (eval (.Name x pos) env) Q E s := by
  obtain ⟨mg, mb, T⟩ := F.gd.T
  exact Name_function_global hk hl (loadGlobal_global (hg ▸ T.g) (mg_of F.gd.X T.g e) h) hd
theorem e_bi {x : Str} {pos : Pos} {v : Value} {Q : Value → Shared → Prop} (F : Fm w R s₀ k₀ L m k mu s) (e : nsIn (KK w) mainGlobals x = some none) (hv : bootBuiltins x = some v) (h : Q v s) (hg : env.globals = mainGlobals := by rfl) (hb : env.builtins = builtinsNs := by rfl)
    (hk : env.scope.kind = .function := by rfl) (hl : env.kindOf x = some .globalImplicit := by rfl) (hn : x ≠ "__name__" := by decide) (hd : (x == ("__debug__" : Str)) = false := by decide) : wpAny (model Pr w) A (eval (.Name x pos) env) Q E s := by
  obtain ⟨mg, mb, T⟩ := F.gd.T
  exact Name_function_global hk hl (loadGlobal_builtin (hg ▸ T.g) (mg_none_of F.gd.X T.g e) (hb ▸ T.b) ((T.builtins x hn).trans hv) h) hd
theorem e_int {i : Int} {n : Nat} {pos : Pos} {Q : Value → Shared → Prop} (F : Fm w R s₀ k₀ L m k mu s) (h : ∀ t s', Fm w R s₀ k₀ L m k mu s' → Q (.int i t) s') : wpAny (model Pr w) A (eval (.Constant (.int i) n pos) env) Q E s :=
  wpAny_Constant_int (h _ _ (F.tok _))
theorem e_str {x : Str} {n : Nat} {pos : Pos} {Q : Value → Shared → Prop} (F : Fm w R s₀ k₀ L m k mu s) (h : ∀ t s', Fm w R s₀ k₀ L m k mu s' → Q (.str x t) s') : wpAny (model Pr w) A (eval (.Constant (.str x) n pos) env) Q E s :=
  wpAny_Constant_str (h _ _ (F.tok _))
theorem o_add {a b : Int} {t u : Tok} {Q : Value → Shared → Prop} (F : Fm w R s₀ k₀ L m k mu s) (h : ∀ t s', Fm w R s₀ k₀ L m k mu s' → Q (.int (a + b) t) s') : wpAny (model Pr w) A (binaryOp .Add (.int a t) (.int b u)) Q E s := add_int (h _ _ (F.tok _))
theorem o_sub {a b : Int} {t u : Tok} {Q : Value → Shared → Prop} (F : Fm w R s₀ k₀ L m k mu s) (h : ∀ t s', Fm w R s₀ k₀ L m k mu s' → Q (.int (a - b) t) s') : wpAny (model Pr w) A (binaryOp .Sub (.int a t) (.int b u)) Q E s := sub_int (h _ _ (F.tok _))
theorem o_mul {a b : Int} {t u : Tok} {Q : Value → Shared → Prop} (F : Fm w R s₀ k₀ L m k mu s) (hm : IntMulOk a b) (h : ∀ t s', Fm w R s₀ k₀ L m k mu s' → Q (.int (a * b) t) s') : wpAny (model Pr w) A (binaryOp .Mult (.int a t) (.int b u)) Q E s := mul_int (h _ _ (F.tok _)) hm
theorem o_mod {a b : Int} {t u : Tok} {Q : Value → Shared → Prop} (F : Fm w R s₀ k₀ L m k mu s) (hb : b ≠ 0) (h : ∀ t s', Fm w R s₀ k₀ L m k mu s' → Q (.int (a.fmod b) t) s') : wpAny (model Pr w) A (binaryOp .Mod (.int a t) (.int b u)) Q E s := mod_int' hb (h _ _ (F.tok _))
theorem o_div {a b : Int} {t u : Tok} {Q : Value → Shared → Prop} (F : Fm w R s₀ k₀ L m k mu s) (hb : b ≠ 0) (hs : Builtin.divisionGoesByPylong a b = false) (h : ∀ t s', Fm w R s₀ k₀ L m k mu s' → Q (.int (a.fdiv b) t) s') : wpAny (model Pr w) A (binaryOp .FloorDiv (.int a t) (.int b u)) Q E s := floordiv_int hb (h _ _ (F.tok _)) (.inl hs)
theorem mul_l {a b : Int} (h : a.natAbs < 18446744073709551616) : IntMulOk a b := IntMulOk.of_left (intBits_le_iff.mpr h)
theorem mul_r {a b : Int} (h : b.natAbs < 18446744073709551616) : IntMulOk a b := IntMulOk.of_right (intBits_le_iff.mpr h)
theorem o_cat {x y : Str} {t u : Tok} {Q : Value → Shared → Prop} (F : Fm w R s₀ k₀ L m k mu s) (hz : x.length + y.length ≤ sizeLine) (h : ∀ t s', Fm w R s₀ k₀ L m k mu s' → Q (.str (x ++ y) t) s') : wpAny (model Pr w) A (binaryOp .Add (.str x t) (.str y u)) Q E s :=
  add_str (fun t' tk => h _ _ (F.tok _)) hz
theorem o_rep {x : Str} {n : Int} {t u : Tok} {Q : Value → Shared → Prop} (F : Fm w R s₀ k₀ L m k mu s) (hz : MulOk x n) (h : ∀ t s', Fm w R s₀ k₀ L m k mu s' → Q (.str (Txt.mul x n) t) s') : wpAny (model Pr w) A (binaryOp .Mult (.str x t) (.int n u)) Q E s :=
  SB.mul hz (fun t' tk => h _ _ (F.tok _))
theorem o_eq {a b : Int} {t u : Tok} {Q : Value → Shared → Prop} (h : Q (.bool (a == b)) s) : wpAny (model Pr w) A (compareOp .Eq (.int a t) (.int b u)) Q E s := eq_int h
theorem x_store {x : Str} {v : Value} {Q : Unit → Shared → Prop} (F : Fm w R s₀ k₀ L m k mu s) (h : ∀ s', Fm w R s₀ k₀ L (up m x v) k mu s' → Q () s') (hL : env.locals = L := by rfl) (hk : env.scope.kind = .function := by rfl) (hl : env.kindOf x = some .local := by rfl) :
    wpAny (model Pr w) A (storeName env x v) Q E s := by
  subst hL
  exact wpAny_storeName_local hl F.ns (fun h' hn hs => h _ (F.store hn hs)) (by rw [hk]; rfl)
theorem x_assign {x : Str} {pos' : Pos} {value : Expr} {pos : Pos} {Q : Flow → Shared → Prop} (h : wpAny (model Pr w) A (eval value env) (fun v s₁ => wpAny (model Pr w) A (storeName env x v) (fun _ => Q .next) E s₁) E s)
    (hs : swapsWith value (some (.Name x pos')) pos.line env = pure false := by rfl) : wpAny (model Pr w) A (exec (.Assign [.Name x pos'] value pos) env) Q E s := wpAny_Assign_Name h hs
theorem o_tuple {vs : List Value} {Q : Value → Shared → Prop} (F : Fm w R s₀ k₀ L m k mu s) (hz : vs.length ≤ sizeLine) (h : ∀ d s', Fm w R s₀ k₀ L m k ((d, { cls := .type "tuple", data := .seq vs.toArray }) :: mu) s' → Q (.ref d) s') : wpAny (model Pr w) A (newTuple vs) Q E s :=
  wpAny_newObj_type (h _ _ (F.push _)) (by show vs.toArray.size ≤ sizeLine; rw [List.size_toArray]; exact hz)
theorem o_list {vs : List Value} {Q : Value → Shared → Prop} (F : Fm w R s₀ k₀ L m k mu s) (hz : vs.length ≤ sizeLine) (h : ∀ d s', Fm w R s₀ k₀ L m k ((d, { cls := .type "list", data := .seq vs.toArray }) :: mu) s' → Q (.ref d) s') : wpAny (model Pr w) A (newList vs) Q E s :=
  wpAny_newObj_type (h _ _ (F.push _)) (by show vs.toArray.size ≤ sizeLine; rw [List.size_toArray]; exact hz)
def Then (M : Model) (A : Around) (rest : List Stmt) (env : Env) (Q : Flow → Shared → Prop) (E : Value → Shared → Prop) (f : Flow) (s' : Shared) : Prop :=
  match f with | .next => wpAny M A (execs rest env) Q E s' | f => Q f s'
theorem then_next {M : Model} {rest : List Stmt} {Q : Flow → Shared → Prop} (h : wpAny M A (execs rest env) Q E s) : Then M A rest env Q E .next s := h
theorem then_ret {M : Model} {rest : List Stmt} {Q : Flow → Shared → Prop} {v : Value} (h : Q (.ret v) s) : Then M A rest env Q E (.ret v) s := h
theorem then_brk {M : Model} {rest : List Stmt} {Q : Flow → Shared → Prop} (h : Q .brk s) : Then M A rest env Q E .brk s := h
theorem xs_nil {Q : Flow → Shared → Prop} (h : Q .next s) : wpAny (model Pr w) A (execs [] env) Q E s := wpAny_execs_nil h
theorem xs_any {st : Stmt} {rest : List Stmt} {Q : Flow → Shared → Prop} (h : wpAny (model Pr w) A (exec st env) (Then (model Pr w) A rest env Q E) E s) : wpAny (model Pr w) A (execs (st :: rest) env) Q E s :=
  wpAny_execs_cons (wpAny_mono h (fun f s' q => by cases f <;> exact q) fun _ _ q => q)
theorem xs_assign {x : Str} {pos' : Pos} {value : Expr} {pos : Pos} {rest : List Stmt} {Q : Flow → Shared → Prop}
    (h : wpAny (model Pr w) A (eval value env) (fun v s₁ => wpAny (model Pr w) A (storeName env x v) (fun _ s₂ => wpAny (model Pr w) A (execs rest env) Q E s₂) E s₁) E s)
    (hs : swapsWith value (some (.Name x pos')) pos.line env = pure false := by rfl) : wpAny (model Pr w) A (execs (.Assign [.Name x pos'] value pos :: rest) env) Q E s := wpAny_execs_cons (wpAny_Assign_Name h hs)
theorem xs_ret {e : Expr} {pos : Pos} {rest : List Stmt} {Q : Flow → Shared → Prop} (h : wpAny (model Pr w) A (eval e env) (fun v => Q (.ret v)) E s) : wpAny (model Pr w) A (execs (.Return (some e) pos :: rest) env) Q E s :=
  wpAny_execs_cons (wpAny_Return_some h)
theorem xs_break {pos : Pos} {rest : List Stmt} {Q : Flow → Shared → Prop} (h : Q .brk s) : wpAny (model Pr w) A (execs (.Break pos :: rest) env) Q E s := wpAny_execs_cons (wpAny_Break h)
def Br (M : Model) (A : Around) (body orelse rest : List Stmt) (env : Env) (Q : Flow → Shared → Prop) (E : Value → Shared → Prop) (b : Bool) (s' : Shared) : Prop :=
  (b = true → wpAny M A (execs body env) (Then M A rest env Q E) E s') ∧ (b = false → wpAny M A (execs orelse env) (Then M A rest env Q E) E s')
theorem Br.join {M : Model} {body orelse rest : List Stmt} {Q : Flow → Shared → Prop} {b : Bool} (Mid : Shared → Prop) (h1 : b = true → wpAny M A (execs body env) (fun f s' => f = .next ∧ Mid s') E s) (h2 : b = false → wpAny M A (execs orelse env) (fun f s' => f = .next ∧ Mid s') E s)
    (h3 : ∀ s', Mid s' → wpAny M A (execs rest env) Q E s') : Br M A body orelse rest env Q E b s :=
  ⟨fun e => wpAny_mono (h1 e) (fun f s' ⟨q, r⟩ => by subst q; exact h3 s' r) fun _ _ x => x, fun e => wpAny_mono (h2 e) (fun f s' ⟨q, r⟩ => by subst q; exact h3 s' r) fun _ _ x => x⟩
theorem xs_if {test : Expr} {body orelse rest : List Stmt} {pos : Pos} {Q : Flow → Shared → Prop} (h : wpAny (model Pr w) A (PySem.isTrue test env (eval test env)) (Br (model Pr w) A body orelse rest env Q E) E s) :
    wpAny (model Pr w) A (execs (.If test body orelse pos :: rest) env) Q E s := by
  refine xs_any (wpAny_If (wpAny_mono h (fun b s' q => ?_) fun _ _ q => q))
  cases b
  · exact q.2 rfl
  · exact q.1 rfl
theorem t_cmp {l r : Expr} {op : CmpOp} {pos : Pos} {whole : Sem Value} {Q : Bool → Shared → Prop}
    (h : wpAny (model Pr w) A (eval l env) (fun a s₁ => wpAny (model Pr w) A (eval r env) (fun b s₂ => wpAny (model Pr w) A (compareOp op a b) (fun c s₃ => wpAny (model Pr w) A (truthy c) Q E s₃) E s₂) E s₁) E s)
    (hm : behindInMarks op r = false := by with_unfolding_all rfl) : wpAny (model Pr w) A (PySem.isTrue (.Compare l [op] [r] pos) env whole) Q E s := wpAny_isTrue_Compare1 h hm
theorem e_cmp {l r : Expr} {op : CmpOp} {pos : Pos} {Q : Value → Shared → Prop}
    (h : wpAny (model Pr w) A (eval l env) (fun a s₁ => wpAny (model Pr w) A (eval r env) (fun b s₂ => wpAny (model Pr w) A (compareOp op a b) Q E s₂) E s₁) E s)
    (hm : behindInMarks op r = false := by with_unfolding_all rfl) : wpAny (model Pr w) A (eval (.Compare l [op] [r] pos) env) Q E s := wpAny_Compare1 h hm
theorem t_bool {b : Bool} {Q : Bool → Shared → Prop} (h : Q b s) : wpAny (model Pr w) A (truthy (.bool b)) Q E s := wpAny_truthy_bool h
theorem e_tuple {elts : List Expr} {n : Nat} {pos : Pos} {Q : Value → Shared → Prop} (h : wpAny (model Pr w) A (spliced (backTo pos (starEach elts env))) (fun vs s₁ => wpAny (model Pr w) A (newTuple vs) Q E s₁) E s) :
    wpAny (model Pr w) A (eval (.Tuple elts n pos) env) Q E s := Tuple_ h
theorem e_list {elts : List Expr} {pos : Pos} {Q : Value → Shared → Prop} (h : wpAny (model Pr w) A (spliced (backTo pos (starEach elts env))) (fun vs s₁ => wpAny (model Pr w) A (newList vs) Q E s₁) E s) :
    wpAny (model Pr w) A (eval (.List elts pos) env) Q E s := List_ h
theorem i_nil {pos : Pos} {Q : List Value → Shared → Prop} (h : Q [] s) : wpAny (model Pr w) A (spliced (backTo pos (starEach [] env))) Q E s := wpAny_items_nil h
theorem i_cons {pos : Pos} {e : Expr} {rest : List Expr} {Q : List Value → Shared → Prop}
    (h : wpAny (model Pr w) A (eval e env) (fun v s₁ => wpAny (model Pr w) A (spliced (backTo pos (starEach rest env))) (fun vs s₂ => Q (v :: vs) s₂) E s₁) E s)
    (he : starEach (e :: rest) env = (false, eval e env) :: starEach rest env := by rfl) : wpAny (model Pr w) A (spliced (backTo pos (starEach (e :: rest) env))) Q E s := wpAny_items_cons h he
theorem e_bin {l r : Expr} {op : Operator} {pos : Pos} {Q : Value → Shared → Prop}
    (h : wpAny (model Pr w) A (eval l env) (fun a s₁ => wpAny (model Pr w) A (eval r env) (fun b s₂ => wpAny (model Pr w) A (binaryOp op a b) Q E s₂) E s₁) E s) : wpAny (model Pr w) A (eval (.BinOp l op r pos) env) Q E s := wpAny_BinOp h
end
def P0 : Params := { strHash := fun _ => 0, shareClass := fun _ => 0, mergeTok := id, idOf := fun _ => 0, idOfShared := fun _ _ => 0, followText := fun _ => false, idOfImm := fun _ => 0 }
def fdGet (f : Addr) {oc : Value} {od : Option Addr} {osl : Array (Option Value)} {fd : FuncData} (_ : (KF P0).lookup f = some ⟨oc, od, .func fd, osl⟩) : FuncData := fd
section
variable {w : World} {R : Shared → Shared → Prop} {s₀ s s' : Shared} {L : Addr} {m m' : Str → Option Value} {k₀ k k' : Heap} {mu mu' : List (Addr × Obj)} {A : Around} {E : Value → Shared → Prop} {env : Env}
theorem Fm.rot {p : Addr × Obj} (F : Fm w R s₀ k₀ L m k (p :: mu) s) : Fm w R s₀ k₀ L m k (mu ++ [p]) s :=
  F.perm (fun x h => by rcases List.mem_append.mp h with h | h; exact .tail _ h; rw [List.mem_singleton.mp h]; exact .head _) (by
    have nd := F.nd
    rw [List.map_cons, List.nodup_cons] at nd
    rw [List.map_append, List.nodup_append]
    refine ⟨nd.2, by simp, fun a ha b hb => ?_⟩
    simp only [List.map_cons, List.map_nil, List.mem_singleton] at hb
    rw [hb]; exact fun e => nd.1 (e ▸ ha))
theorem Fm.unrot {p : Addr × Obj} (F : Fm w R s₀ k₀ L m k (mu ++ [p]) s) : Fm w R s₀ k₀ L m k (p :: mu) s :=
  F.perm (fun x h => by rcases List.mem_cons.mp h with rfl | h; exact List.mem_append_right _ (.head _); exact List.mem_append_left _ h) (by
    have nd := F.nd
    rw [List.map_append, List.nodup_append] at nd
    rw [List.map_cons, List.nodup_cons]
    exact ⟨fun q => nd.2.2 _ q p.1 (by simp) rfl, nd.1⟩)
theorem Fm.init (F : Fm w R s₀ k₀ L m k (mu ++ mu') s) : Fm w R s₀ k₀ L m k mu s :=
  F.perm (fun x h => List.mem_append_left _ h) (by
    have nd := F.nd
    rw [List.map_append, List.nodup_append] at nd
    exact nd.1)

def Turn (w : World) (R : Shared → Shared → Prop) (s₀ : Shared) (k₀ : Heap) (L : Addr) (k : Heap) (it : Addr × Obj) (J : (Str → Option Value) → Heap → List (Addr × Obj) → Prop) (Q : Flow → Shared → Prop) (f : Flow) (s' : Shared) : Prop :=
  match f with
  | .ret v => Q (.ret v) s'
  | .brk => Q .next s'
  | _ => ∃ m' k' mu', J m' k' mu' ∧ Sub k k' ∧ Fm w R s₀ k₀ L m' k' (mu' ++ [it]) s'
theorem turn_next {it : Addr × Obj} {J : (Str → Option Value) → Heap → List (Addr × Obj) → Prop} {Q : Flow → Shared → Prop} (F : Fm w R s₀ k₀ L m k' (mu ++ [it]) s) (hs : Sub k k') (hj : J m k' mu) : Turn w R s₀ k₀ L k it J Q .next s := ⟨m, k', mu, hj, hs, F⟩
theorem turn_brk {it : Addr × Obj} {J : (Str → Option Value) → Heap → List (Addr × Obj) → Prop} {Q : Flow → Shared → Prop} (h : Q .next s) : Turn w R s₀ k₀ L k it J Q .brk s := h
theorem turn_ret {it : Addr × Obj} {J : (Str → Option Value) → Heap → List (Addr × Obj) → Prop} {Q : Flow → Shared → Prop} {v : Value} (h : Q (.ret v) s) : Turn w R s₀ k₀ L k it J Q (.ret v) s := h

theorem for_any {target : Expr} {body : List Stmt} {I : Addr} {o : Obj} {fp wr : List Addr} {n : Nat} {P : Nat → Value → Prop} {St : Nat → Heap → Prop} {Q : Flow → Shared → Prop} (W : Walks Pr w A I fp wr n P St)
    (F : Fm w R s₀ k₀ L m k ((I, o) :: mu) s) (hst : St 0 s.heap) (hwr : ∀ b ∈ wr, b = I) (hfp : ∀ b ∈ fp, b = I ∨ ∃ ob, k.get? b = some ob) (hex : ∀ i h, St i h → ∃ o, h.get? I = some o)
    (J : Nat → (Str → Option Value) → Heap → List (Addr × Obj) → Prop) (hJ : J 0 m k mu)
    (turn : ∀ i v o' m k' mu' s, i < n → P i v → Sub k k' → J i m k' mu' → Fm w R s₀ k₀ L m k' (mu' ++ [(I, o')]) s →
      wpAny (model Pr w) A (assign target env v) (fun _ s₂ => wpAny (model Pr w) A (execs body env) (Turn w R s₀ k₀ L k (I, o') (J (i + 1)) Q) (fun _ _ => False) s₂) (fun _ _ => False) s)
    (done : ∀ m k' mu' s, J n m k' mu' → Sub k k' → Fm w R s₀ k₀ L m k' mu' s → Q .next s) (ht : ∀ v, letOwnedTupleGo target (.ref I) v = pure () := by intro _; rfl) :
    codeAny (model Pr w) A (.forLoop target (.ref I) body [] env) (fun r s' => match r with | .ok f => Q f s' | .error e => cameBackBy (model Pr w) A env (fun _ _ => False) e s') s := by
  refine codeAny_forLoop (fun c s => ∃ i m k' mu' o', c = n + 1 - i ∧ i ≤ n ∧ St i s.heap ∧ J i m k' mu' ∧ Sub k k' ∧ Fm w R s₀ k₀ L m k' (mu' ++ [(I, o')]) s) ?_ (n + 1) ⟨0, m, k, mu, o, rfl, Nat.zero_le _, hst, hJ, Sub.refl k, F.rot⟩ ht
  rintro c s ⟨i, m, k', mu', o', rfl, hi, hst, hJ, hs, F⟩
  have F := F.unrot
  have step : ∀ {h' : Heap} {tk : Nat} {o'' : Obj}, (∀ b o, b ∉ wr → s.heap.get? b = some o → h'.get? b = some o) → h'.get? I = some o'' → Fm w R s₀ k₀ L m k' (mu' ++ [(I, o'')]) { s with heap := h', toks := tk } := by
    intro h' tk o'' hk ho
    have nI : ∀ b, b ≠ I → b ∉ wr := fun b hb q => hb (hwr b q)
    have nd := List.nodup_cons.mp F.nd
    have M := F.mt _ (.head _)
    refine Fm.rot ⟨F.hR, F.g₀, ?_, F.hR.upd F.g₀ F.rel fun b o l e => hk b o (nI b ?_) e, F.new, fun b o e => hk b o (nI b ?_) (F.led b o e), F.ext, F.fresh, F.kL, F.kP, fun p hp => ?_, F.nd⟩
    · obtain ⟨ol, es, ep, e, r⟩ := F.ns
      exact ⟨ol, es, ep, hk _ _ (nI _ (Ne.symm M.2.1)) e, r⟩
    · rintro rfl; exact absurd (some_lt l) (Nat.not_lt.mpr M.2.2.2)
    · rintro rfl; have q := M.2.2.1; dsimp only at q; rw [q] at e; cases e
    · rcases List.mem_cons.mp hp with rfl | hp
      · exact ⟨ho, M.2⟩
      · exact ⟨hk _ _ (nI _ fun q => nd.1 (List.mem_map.mpr ⟨p, hp, q⟩)) (F.mt p (.tail _ hp)).1, (F.mt p (.tail _ hp)).2⟩
  by_cases hlt : i < n
  · refine W.item i s _ _ hlt hst fun v h' tk hP hst' hk => ?_
    obtain ⟨o'', ho''⟩ := hex _ _ hst'
    have F' := step (tk := tk) hk ho''
    refine wpAny_mono (turn i v o'' m k' mu' _ hlt hP hs hJ F') (fun _ s₂ h₂ => wpAny_mono h₂ (fun f s₃ h₃ => ?_) fun _ _ x => x.elim) fun _ _ x => x.elim
    have fin : (∃ m' k'' mu'', J (i + 1) m' k'' mu'' ∧ Sub k k'' ∧ Fm w R s₀ k₀ L m' k'' (mu'' ++ [(I, o'')]) s₃) → ∃ m_1, m_1 < n + 1 - i ∧ ∃ i m k' mu' o', m_1 = n + 1 - i ∧ i ≤ n ∧ St i s₃.heap ∧ J i m k' mu' ∧ Sub k k' ∧ Fm w R s₀ k₀ L m k' (mu' ++ [(I, o')]) s₃ := by
      rintro ⟨m', k'', mu'', hj, hs'', F''⟩
      refine ⟨n + 1 - (i + 1), by omega, i + 1, m', k'', mu'', o'', rfl, hlt, W.frame _ _ _ hst' fun b hb ob e => ?_, hj, hs'', F''⟩
      rcases hfp b hb with rfl | ⟨ob', q⟩
      · rw [ho''] at e; cases e
        exact (F''.mt (b, o'') (by simp)).1
      · have := F'.led b ob' (hs _ _ q)
        rw [e] at this; cases this
        exact F''.led b ob (hs'' _ _ q)
    cases f with
    | next => exact fin h₃
    | cont => exact fin h₃
    | brk => exact h₃
    | ret v => exact h₃
  · have e : i = n := by omega
    subst e
    refine W.done s _ _ hst fun h' tk hk => ?_
    refine wpAny_execs_nil (done m k' mu' _ hJ hs ?_)
    have nI : ∀ b, b ≠ I → b ∉ wr := fun b hb q => hb (hwr b q)
    have nd := List.nodup_cons.mp F.nd
    have M := F.mt _ (.head _)
    refine ⟨F.hR, F.g₀, ?_, F.hR.upd F.g₀ F.rel fun b o l e => hk b o (nI b ?_) e, F.new, fun b o e => hk b o (nI b ?_) (F.led b o e), F.ext, F.fresh, F.kL, F.kP, fun p hp => ?_, nd.2⟩
    · obtain ⟨ol, es, ep, e, r⟩ := F.ns
      exact ⟨ol, es, ep, hk _ _ (nI _ (Ne.symm M.2.1)) e, r⟩
    · rintro rfl; exact absurd (some_lt l) (Nat.not_lt.mpr M.2.2.2)
    · rintro rfl; have q := M.2.2.1; dsimp only at q; rw [q] at e; cases e
    · exact ⟨hk _ _ (nI _ fun q => nd.1 (List.mem_map.mpr ⟨p, hp, q⟩)) (F.mt p (.tail _ hp)).1, (F.mt p (.tail _ hp)).2⟩

def LoopV (w : World) (A : Around) (target : Expr) (body : List Stmt) (env : Env) (Q : Flow → Shared → Prop) (v : Value) (s : Shared) : Prop :=
  wpAny (model Pr w) A (pyIter v) (fun it s₂ => codeAny (model Pr w) A (.forLoop target it body [] env) (fun r s' => match r with | .ok f => Q f s' | .error e => cameBackBy (model Pr w) A env (fun _ _ => False) e s') s₂) (fun _ _ => False) s
theorem xs_for {target iter : Expr} {body rest : List Stmt} {pos : Pos} {Q : Flow → Shared → Prop} (h : wpAny (model Pr w) A (eval iter env) (LoopV w A target body env (Then (model Pr w) A rest env Q (fun _ _ => False))) (fun _ _ => False) s)
    (hs : ∀ x, foldedSetIterable iter env x = pure x := by intro _; rfl) : wpAny (model Pr w) A (execs (.For target iter body [] pos :: rest) env) Q (fun _ _ => False) s :=
  xs_any (wpAny_For h hs)
theorem loop_str {x : Str} {px : Pos} {body : List Stmt} {Q : Flow → Shared → Prop} {y : Str} {t : Tok} (F : Fm w R s₀ k₀ L m k mu s) (hh : A.handled = none)
    (J : Nat → (Str → Option Value) → Heap → List (Addr × Obj) → Prop) (hJ : J 0 m k mu)
    (turn : ∀ i c u I o' m k' mu' s, y.cps[i]? = some c → Sub k k' → J i m k' mu' → Fm w R s₀ k₀ L (up m x (.str ⟨#[c]⟩ u)) k' (mu' ++ [(I, o')]) s →
        wpAny (model Pr w) A (execs body env) (Turn w R s₀ k₀ L k (I, o') (J (i + 1)) Q) (fun _ _ => False) s)
    (done : ∀ m k' mu' s, J y.cps.size m k' mu' → Sub k k' → Fm w R s₀ k₀ L m k' mu' s → Q .next s)
    (hL : env.locals = L := by rfl) (hk : env.scope.kind = .function := by rfl) (hl : env.kindOf x = some .local := by rfl) :
    LoopV w A (.Name x px) body env Q (.str y t) s := by
  have key : ∀ (o : Obj) (St : Nat → Heap → Prop), o.isFreed = false → Walks Pr w A s.heap.objs.size [s.heap.objs.size] [s.heap.objs.size] y.cps.size (SignAt y) St → St 0 (s.heap.push o) → (∀ i h, St i h → ∃ o, h.get? s.heap.objs.size = some o) →
      codeAny (model Pr w) A (.forLoop (.Name x px) (.ref s.heap.objs.size) body [] env) (fun r s' => match r with | .ok f => Q f s' | .error e => cameBackBy (model Pr w) A env (fun _ _ => False) e s') { s with heap := s.heap.push o } := by
    intro o St hf W hst hex
    refine for_any W (F.push o hf) hst (fun b hb => List.mem_singleton.mp hb) (fun b hb => .inl (List.mem_singleton.mp hb)) hex J hJ (fun i v o' m k' mu' s hi hP hs hj F => ?_) done
    obtain ⟨c, u, hc, rfl⟩ := hP
    exact wpAny_assign_Name (x_store F (fun s' F' => turn i c u _ o' m k' mu' s' hc hs hj F') hL hk hl)
  unfold LoopV
  cases ha : y.cps.all (· < 128)
  · exact wpAny_pyIter_wide ha (key _ _ rfl (Walks.strWide hh _ y t) ⟨_, Heap.get?_push_size _ rfl, rfl, rfl⟩ fun i h st => let ⟨o, e, _⟩ := st; ⟨o, e⟩)
  · exact wpAny_pyIter_ascii ha (key _ _ rfl (Walks.strAscii hh _ y t) ⟨_, Heap.get?_push_size _ rfl, rfl, rfl⟩ fun i h st => let ⟨o, e, _⟩ := st; ⟨o, e⟩)
theorem loop_list {x : Str} {px : Pos} {body : List Stmt} {Q : Flow → Shared → Prop} {l : Addr} {items : Array Value} (F : Fm w R s₀ k₀ L m k mu s) (hh : A.handled = none) (hl0 : k.IsList l items)
    (J : Nat → (Str → Option Value) → Heap → List (Addr × Obj) → Prop) (hJ : J 0 m k mu)
    (turn : ∀ i v I o' m k' mu' s, items[i]? = some v → Sub k k' → J i m k' mu' → Fm w R s₀ k₀ L (up m x v) k' (mu' ++ [(I, o')]) s →
        wpAny (model Pr w) A (execs body env) (Turn w R s₀ k₀ L k (I, o') (J (i + 1)) Q) (fun _ _ => False) s)
    (done : ∀ m k' mu' s, J items.size m k' mu' → Sub k k' → Fm w R s₀ k₀ L m k' mu' s → Q .next s)
    (hL : env.locals = L := by rfl) (hk : env.scope.kind = .function := by rfl) (hl : env.kindOf x = some .local := by rfl) :
    LoopV w A (.Name x px) body env Q (.ref l) s := by
  have hls : s.heap.IsList l items := hl0.at fun o e => F.led l o e
  have hne : l ≠ s.heap.objs.size := by obtain ⟨o, e, _⟩ := hls; exact Nat.ne_of_lt (Heap.lt_size e)
  unfold LoopV
  refine wpAny_pyIter_list hls ?_
  refine for_any (Walks.list hh s.heap.objs.size l hne items) (F.push _) ⟨⟨_, Heap.get?_push_size _ rfl, rfl, rfl⟩, hls.at fun o e => Heap.get?_push_of_some _ e⟩ (fun b hb => List.mem_singleton.mp hb) (fun b hb => ?_) (fun i h st => let ⟨o, e, _⟩ := st.1; ⟨o, e⟩) J hJ (fun i v o' m k' mu' s hi hP hs hj F => ?_) done
  · rcases List.mem_cons.mp hb with q | q
    · exact .inl q
    · obtain ⟨o, e, _⟩ := hl0
      exact .inr ⟨o, by rw [List.mem_singleton.mp q]; exact e⟩
  · exact wpAny_assign_Name (x_store F (fun s' F' => turn i v _ o' m k' mu' s' hP hs hj F') hL hk hl)
theorem c_range2 {a b : Int} {t u : Tok} {Q : Value → Shared → Prop} (F : Fm w R s₀ k₀ L m k mu s) (h : ∀ r v s', Fm w R s₀ k₀ L m k ((r, { cls := .type "range", data := .fields #[.int a t, .int b u, .int 1 v] }) :: mu) s' → Q (.ref r) s') :
    wpAny (model Pr w) A (call (.type "range") [.int a t, .int b u]) Q E s := call_range_2 (h _ s.toks _ ((F.push { cls := .type "range", data := .fields #[.int a t, .int b u, .int 1 s.toks] }).tok _))
theorem c_range1 {b : Int} {u : Tok} {Q : Value → Shared → Prop} (F : Fm w R s₀ k₀ L m k mu s) (h : ∀ r t v s', Fm w R s₀ k₀ L m k ((r, { cls := .type "range", data := .fields #[.int 0 t, .int b u, .int 1 v] }) :: mu) s' → Q (.ref r) s') :
    wpAny (model Pr w) A (call (.type "range") [.int b u]) Q E s := call_range_1 (h _ s.toks (s.toks + 1) _ ((F.push { cls := .type "range", data := .fields #[.int 0 s.toks, .int b u, .int 1 (s.toks + 1)] }).tok _))
theorem loop_range {x : Str} {px : Pos} {body : List Stmt} {Q : Flow → Shared → Prop} {r : Addr} {a b : Int} {t u v9 : Tok} (F : Fm w R s₀ k₀ L m k ((r, { cls := .type "range", data := .fields #[.int a t, .int b u, .int 1 v9] }) :: mu) s) (hh : A.handled = none) (ha : 0 ≤ a) (hb : 0 ≤ b) (ha' : a < 2 ^ 60) (hb' : b < 2 ^ 60)
    (J : Nat → (Str → Option Value) → Heap → List (Addr × Obj) → Prop) (hJ : J 0 m k mu)
    (turn : ∀ (i : Nat) t I o' m k' mu' s, a + (i : Int) < b → Sub k k' → J i m k' mu' → Fm w R s₀ k₀ L (up m x (.int (a + i) t)) k' (mu' ++ [(I, o')]) s →
        wpAny (model Pr w) A (execs body env) (Turn w R s₀ k₀ L k (I, o') (J (i + 1)) Q) (fun _ _ => False) s)
    (done : ∀ m k' mu' s, J (b - a).toNat m k' mu' → Sub k k' → Fm w R s₀ k₀ L m k' mu' s → Q .next s)
    (hL : env.locals = L := by rfl) (hk : env.scope.kind = .function := by rfl) (hl : env.kindOf x = some .local := by rfl) :
    LoopV w A (.Name x px) body env Q (.ref r) s := by
  have hr : IsRange s.heap r a b 1 t u v9 := (F.mt _ (.head _)).1
  unfold LoopV
  refine wpAny_pyIter_range hr (small_one (by omega) (by omega) (by omega) (by omega)) ?_
  have hsz : Builtin.Range.rangeSize a b 1 = ((b - a).toNat : Int) := by rw [rangeSize_one]; split <;> omega
  rw [hsz]
  have F' := F.drop.push { cls := .type "range_iterator", data := .fields #[.int a 0, .int ((b - a).toNat : Int) 0, .int 1 0] }
  refine for_any (Walks.range hh s.heap.objs.size a 1 (b - a).toNat) F' ?_ (fun b hb => List.mem_singleton.mp hb) (fun b hb => .inl (List.mem_singleton.mp hb)) (fun i h st => ⟨_, st⟩) J hJ (fun i v o' m k' mu' s hi hP hs hj F => ?_) done
  · show IsRangeIter _ _ _ _ _
    have e1 : a + ((0 : Nat) : Int) * 1 = a := by omega
    have e2 : ((b - a).toNat : Int) - ((0 : Nat) : Int) = ((b - a).toNat : Int) := by omega
    rw [e1, e2]
    exact F'.mt _ (.head _) |>.1
  · obtain ⟨t', rfl⟩ := hP
    have e : a + (i : Int) * 1 = a + i := by omega
    rw [e]
    exact wpAny_assign_Name (x_store F (fun s' F' => turn i t' _ o' m k' mu' s' (by omega) hs hj F') hL hk hl)
end
theorem len_sp : (Str.ofString " ").length = 1 := by decide +kernel
theorem len_tab : (Str.ofString "\t").length = 1 := by decide +kernel
theorem sp_is : Str.ofString " " = ⟨#[32]⟩ := by decide +kernel
theorem tab_is : Str.ofString "\t" = ⟨#[9]⟩ := by decide +kernel
theorem x_is : Str.ofString "x" = ⟨#[120]⟩ := by decide +kernel
theorem sign_eq (c d : Nat) : ((⟨#[c]⟩ : Str) == ⟨#[d]⟩) = (c == d) := by
  rw [Bool.eq_iff_iff, beq_iff_eq, beq_iff_eq]
  constructor
  · intro e; injection e with e; simpa using e
  · rintro rfl; rfl
theorem mul_sp (n : Int) : (Txt.mul (Str.ofString " ") n).cps.toList = List.replicate n.toNat 32 := by rw [sp_is]; exact mul_one_list 32 n
theorem cat_list (x y : Str) : (x ++ y).cps.toList = x.cps.toList ++ y.cps.toList := by rw [Str.cps_append]; simp
theorem tab_list : (Str.ofString "\t").cps.toList = [9] := by rw [tab_is]
theorem hasI {m : Str → Option Value} {x : Str} {a b : Int} {t : Tok} (h : m x = some (.int a t)) (e : a = b) : ∃ t, m x = some (.int b t) := ⟨t, e ▸ h⟩
def AttrD : List DictEntry → List (Str × Value) → Prop
  | [], [] => True
  | e :: r, p :: l => (∃ t, e.key = .str p.1 t) ∧ e.val = p.2 ∧ AttrD r l
  | _, _ => False
theorem AttrD.any : ∀ {es : List DictEntry} {l : List (Str × Value)}, AttrD es l → es.any (·.refKey) = false
  | [], [], _ => rfl
  | e :: r, p :: l, ⟨⟨t, h⟩, _, h'⟩ => by
    rw [List.any_cons, AttrD.any h', Bool.or_false]; unfold DictEntry.refKey; rw [h]
  | [], _ :: _, h => h.elim
  | _ :: _, [], h => h.elim
theorem AttrD.find : ∀ {es : List DictEntry} {l : List (Str × Value)} (x : Str), AttrD es l → (es.find? (·.key.isStr x)).map (·.val) = l.lookup x
  | [], [], _, _ => rfl
  | e :: r, p :: l, x, ⟨⟨t, h⟩, hv, h'⟩ => by
    rw [List.find?_cons, List.lookup_cons]
    have : e.key.isStr x = (x == p.1) := by
      rw [h]; show (p.1 == x) = (x == p.1)
      rw [Bool.eq_iff_iff, beq_iff_eq, beq_iff_eq]; exact eq_comm
    rw [this]
    cases x == p.1 with
    | true => simp [hv]
    | false => simpa using AttrD.find x h'
  | [], _ :: _, _, h => h.elim
  | _ :: _, [], _, h => h.elim
theorem AttrD.get {es : List DictEntry} {l : List (Str × Value)} (x : Str) (h : AttrD es l) : getL x es = some (l.lookup x) := by
  have := h.find x
  unfold getL
  cases q : es.find? (·.key.isStr x) with
  | none => rw [q] at this; simp only [Option.map_none] at this; rw [← this, h.any]; rfl
  | some e => rw [q] at this; simp only [Option.map_some] at this; rw [← this]
theorem AttrD.put : ∀ {es : List DictEntry} {l : List (Str × Value)} {x : Str} {hs : Int} {t : Tok} {v : Value}, AttrD es l → l.lookup x = none → AttrD (putL x hs (.str x t) v es) (l ++ [(x, v)])
  | [], [], x, hs, t, v, _, _ => ⟨⟨t, rfl⟩, rfl, trivial⟩
  | e :: r, p :: l, x, hs, t, v, ⟨⟨u, h⟩, hv, h'⟩, hn => by
    rw [List.lookup_cons] at hn
    have q : (x == p.1) = false := by cases q : x == p.1 with
      | true => rw [q] at hn; cases hn
      | false => rfl
    rw [q] at hn
    have : e.key.isStr x = false := by
      rw [h]; show (p.1 == x) = false
      rw [← q, Bool.eq_iff_iff, beq_iff_eq, beq_iff_eq]; exact eq_comm
    unfold putL
    rw [this]
    exact ⟨⟨u, h⟩, hv, AttrD.put h' hn⟩
  | [], _ :: _, _, _, _, _, h, _ => h.elim
  | _ :: _, [], _, _, _, _, h, _ => h.elim
theorem AttrD.length : ∀ {es : List DictEntry} {l : List (Str × Value)}, AttrD es l → es.length = l.length
  | [], [], _ => rfl
  | e :: r, p :: l, ⟨_, _, h'⟩ => by simp [AttrD.length h']
  | [], _ :: _, h => h.elim
  | _ :: _, [], h => h.elim

section
variable {w : World} {R : Shared → Shared → Prop} {s₀ s s' : Shared} {L : Addr} {m m' : Str → Option Value} {k₀ k k' : Heap} {mu mu' : List (Addr × Obj)} {A : Around} {E : Value → Shared → Prop} {env : Env}

theorem ws_plain (w : World) (name : Str) : plainGet (KK w) 104 name = true := by rfl
theorem ws_hasDict (w : World) : hasDictIn (KK w) 104 = true := by rfl
theorem ws_raw (w : World) : findIn (KK w) (.ref 104) "raw" = some none := by rfl
theorem ws_n (w : World) : findIn (KK w) (.ref 104) "n" = some none := by rfl
theorem ws_nt (w : World) : findIn (KK w) (.ref 104) "nt" = some none := by rfl
theorem ws_norm (w : World) : findIn (KK w) (.ref 104) "norm" = some none := by rfl
theorem ws_simple (w : World) : findIn (KK w) (.ref 104) "is_simple" = some none := by rfl
theorem ws_lon (w : World) : findIn (KK w) (.ref 104) "longest_run_of_spaces" = some (some (.ref 66)) := by rfl
theorem ws_ind (w : World) : findIn (KK w) (.ref 104) "indent_level" = some (some (.ref 73)) := by rfl
theorem ws_equ (w : World) : findIn (KK w) (.ref 104) "equal" = some (some (.ref 80)) := by rfl
theorem ws_wit (w : World) : findIn (KK w) (.ref 104) "not_equal_witness" = some (some (.ref 87)) := by rfl
theorem ws_les (w : World) : findIn (KK w) (.ref 104) "less" = some (some (.ref 94)) := by rfl
theorem ws_set (w : World) : findIn (KK w) (.ref 104) "__setattr__" = some (some (.builtin "object.__setattr__")) := by rfl
theorem ws_over (w : World) : plainOver (KK w) 104 = true := by rfl
theorem ws_S (w : World) : findCls (KK w) (.ref 104) (.type "type") "S" = some (.val (.str " " 249)) := by rfl
theorem ws_T (w : World) : findCls (KK w) (.ref 104) (.type "type") "T" = some (.val (.str "\t" 250)) := by rfl
theorem ws_reads (w : World) : readsIn (KK w) 104 (.type "type") = true := by rfl
theorem tk_raw (w : World) : takerIn (KK w) 104 "raw" = some none := by rfl
theorem tk_n (w : World) : takerIn (KK w) 104 "n" = some none := by rfl
theorem tk_nt (w : World) : takerIn (KK w) 104 "nt" = some none := by rfl
theorem tk_norm (w : World) : takerIn (KK w) 104 "norm" = some none := by rfl
theorem tk_simple (w : World) : takerIn (KK w) 104 "is_simple" = some none := by rfl

def InsAt (h : Heap) (x : Addr) (l : List (Str × Value)) : Prop := ∃ dx es n, h.get? x = some (instObj 104 dx) ∧ h.get? dx = some (dictOf es n) ∧ AttrD es l
theorem InsAt.mono {h h' : Heap} {x : Addr} {l : List (Str × Value)} (i : InsAt h x l) (hs : Sub h h') : InsAt h' x l := let ⟨dx, es, n, a, b, c⟩ := i; ⟨dx, es, n, hs _ _ a, hs _ _ b, c⟩

theorem g_attr {x : Addr} {l : List (Str × Value)} {name : Str} {v : Value} {b : Bool} {Q : Value → Shared → Prop} (F : Fm w R s₀ k₀ L m k mu s) (hi : InsAt s.heap x l) (hf : findIn (KK w) (.ref 104) name = some none) (hv : l.lookup name = some v)
    (hh : handedIn v = true) (h : ∀ s', Fm w R s₀ k₀ L m k mu s' → Q v s') : wpAny (model Pr w) A (getAttr (.ref x) name b) Q E s := by
  obtain ⟨dx, es, n, a, b, c⟩ := hi
  exact get_own F.fr F.K₀ (ox := instObj 104 dx) ⟨a, rfl, rfl, b⟩ (ws_plain w name) (ws_hasDict w) hf rfl ((c.get name).trans (by rw [hv])) hh (h _ (F.tok _))
theorem g_cls {name : Str} {v : Value} {b : Bool} {Q : Value → Shared → Prop} (F : Fm w R s₀ k₀ L m k mu s) (hf : findCls (KK w) (.ref 104) (.type "type") name = some (.val v)) (hh : handedIn v = true) (h : ∀ s', Fm w R s₀ k₀ L m k mu s' → Q v s') :
    wpAny (model Pr w) A (getAttr (.ref 104) name b) Q E s := cls_value F.gd.X (ws_reads w) hf hh (h _ (F.tok _))
theorem x_setattr {x dx : Addr} {es : List DictEntry} {n : Nat} {l : List (Str × Value)} {name : Str} {v : Value} {Q : Unit → Shared → Prop} (F : Fm w R s₀ k₀ L m k ((dx, dictOf es n) :: mu) s) (hx : (x, instObj 104 dx) ∈ mu) (hD : AttrD es l)
    (ht : takerIn (KK w) 104 name = some none) (hn : l.lookup name = none) (hl : l.length ≤ 100)
    (h : ∀ es' n' s', AttrD es' (l ++ [(name, v)]) → Fm w R s₀ k₀ L m k ((dx, dictOf es' n') :: mu) s' → Q () s') : wpAny (model Pr w) A (setAttr (.ref x) name v) Q E s := by
  obtain ⟨ot, hot, N⟩ := F.news
  have nd := List.nodup_cons.mp F.nd
  have hput := hD.put (hs := PyData.keyHash w.params name) (t := s.toks + 1) (v := v) hn
  refine set_dict F.fr F.K₀ N (ox := instObj 104 dx) ⟨(F.mt _ (.tail _ hx)).1, rfl, rfl, (F.mt _ (.head _)).1⟩ rfl (ws_set w) (ws_over w) ht (ws_hasDict w) (by rw [hD.get, hn]; rfl) rfl (Upd.head fun p hp q => ?_) (by rw [hput.length]; simp; omega) (fun h' F' N' => h _ _ _ hput (F.of hot F' N' ?_ fun p hp => ?_))
  · rcases List.mem_append.mp hp with hp | hp
    · exact nd.1 (List.mem_map.mpr ⟨p, hp, q⟩)
    · rcases List.mem_cons.mp hp with rfl | hp
      · exact F.mut_ne (.head _) q.symm
      · have a := (ents_mem.mp hp).1
        rw [q, (F.mt _ (.head _)).2.2.1] at a; cases a
  · rw [List.map_cons, List.nodup_cons]; exact nd
  · rcases List.mem_cons.mp hp with rfl | hp
    · exact ⟨(F.mt _ (.head _)).2.2.1, (F.mt _ (.head _)).2.2.2⟩
    · exact ⟨(F.mt _ (.tail _ hp)).2.2.1, (F.mt _ (.tail _ hp)).2.2.2⟩
theorem io_nil {Q : Unit → Shared → Prop} (h : Q () s) : wpAny (model Pr w) A (assignInOrder [] []) Q E s := wpAny_pure h
theorem io_cons {f : Value → Sem Unit} {fs : List (Value → Sem Unit)} {v : Value} {vs : List Value} {Q : Unit → Shared → Prop} (h : wpAny (model Pr w) A (f v) (fun _ s' => wpAny (model Pr w) A (assignInOrder fs vs) Q E s') E s) : wpAny (model Pr w) A (assignInOrder (f :: fs) (v :: vs)) Q E s :=
  wpAny_bind (wpAny_holding h)
theorem unpack2 {t : Addr} {items : Array Value} {n : Nat} {Q : List Value → Shared → Prop} (F : Fm w R s₀ k₀ L m k mu s) (ht : IsTup s.heap t items) (hh : A.handled = none) (hn : n = items.size) (h : ∀ s', Fm w R s₀ k₀ L m k mu s' → Q items.toList s') :
    wpAny (model Pr w) A (unpackItems (.ref t) n none) Q E s := by
  subst hn
  exact unpackItems_tuple hh ht fun h' he => h _ (F.grow (tk := s.toks) fun b o e => he b o (Nat.ne_of_lt (Heap.lt_size e)) e)
theorem x_unpack {elts : List Expr} {k9 : Nat} {pos : Pos} {t : Addr} {items : Array Value} {Q : Unit → Shared → Prop} (F : Fm w R s₀ k₀ L m k mu s) (ht : IsTup s.heap t items) (hh : A.handled = none) (hn : (assignEach elts env).length = items.size) (hstar : (assignEach elts env).findIdx? (·.1) = none)
    (h : ∀ s', Fm w R s₀ k₀ L m k mu s' → wpAny (model Pr w) A (assignInOrder ((assignEach elts env).map (·.2)) items.toList) Q E s') : wpAny (model Pr w) A (assign (.Tuple elts k9 pos) env (.ref t)) Q E s :=
  assign_Tuple_tuple hh ht hn hstar fun h' he => h _ (F.grow (tk := s.toks) fun b o e => he b o (Nat.ne_of_lt (Heap.lt_size e)) e)
theorem xs_swapped {elts : List Expr} {k9 : Nat} {tpos : Pos} {value : Expr} {pos : Pos} {names : List Str} {rest : List Stmt} {Q : Flow → Shared → Prop}
    (h : wpAny (model Pr w) A (eval value env) (fun v s₁ => wpAny (model Pr w) A (unpackItems v names.length none) (fun items s₂ => wpAny (model Pr w) A (assignInOrder (names.reverse.map fun n => bindName env n) items.reverse) (fun _ s₃ => wpAny (model Pr w) A (execs rest env) Q E s₃) E s₂) E s₁) E s)
    (hs : swapsWithSole [.Tuple elts k9 tpos] value pos.line env = pure false := by rfl) (hw : swappedStores [.Tuple elts k9 tpos] value env = pure (some names) := by rfl) : wpAny (model Pr w) A (execs (.Assign [.Tuple elts k9 tpos] value pos :: rest) env) Q E s :=
  wpAny_execs_cons (Assign_Tuple_swapped h hs hw)
theorem xs_tuple {elts : List Expr} {k9 : Nat} {tpos : Pos} {value : Expr} {pos : Pos} {rest : List Stmt} {Q : Flow → Shared → Prop}
    (h : wpAny (model Pr w) A (eval value env) (fun v s₁ => wpAny (model Pr w) A (assign (.Tuple elts k9 tpos) env v) (fun _ s₃ => wpAny (model Pr w) A (execs rest env) Q E s₃) E s₁) E s)
    (hs : swapsWithSole [.Tuple elts k9 tpos] value pos.line env = pure false := by rfl) (hw : swappedStores [.Tuple elts k9 tpos] value env = pure none := by rfl) : wpAny (model Pr w) A (execs (.Assign [.Tuple elts k9 tpos] value pos :: rest) env) Q E s :=
  wpAny_execs_cons (Assign_Tuple h hs hw)
theorem xs_three {t₁ t₂ t₃ value : Expr} {pos : Pos} {rest : List Stmt} {Q : Flow → Shared → Prop}
    (h : wpAny (model Pr w) A (eval value env) (fun v s₁ => wpAny (model Pr w) A (assign t₁ env v) (fun _ s₂ => wpAny (model Pr w) A (assign t₂ env v) (fun _ s₃ => wpAny (model Pr w) A (assign t₃ env v) (fun _ s₄ => wpAny (model Pr w) A (execs rest env) Q E s₄) E s₃) E s₂) E s₁) E s)
    (ha : (assignEach [t₁, t₂, t₃] env).map (·.2) = [assign t₁ env, assign t₂ env, assign t₃ env] := by rfl) (hw : swappedStores [t₁, t₂, t₃] value env = pure none := by rfl) : wpAny (model Pr w) A (execs (.Assign [t₁, t₂, t₃] value pos :: rest) env) Q E s :=
  wpAny_execs_cons (wpAny_Assign_three h ha hw)
theorem a_name {x : Str} {pos : Pos} {v : Value} {Q : Unit → Shared → Prop} (h : wpAny (model Pr w) A (storeName env x v) Q E s) : wpAny (model Pr w) A (assign (.Name x pos) env v) Q E s := wpAny_assign_Name h
theorem a_bind {x : Str} {v : Value} {Q : Unit → Shared → Prop} (h : wpAny (model Pr w) A (storeName env x v) Q E s) : wpAny (model Pr w) A (bindName env x v) Q E s := wpAny_bindName h
theorem xs_setattr {o : Expr} {attr : Str} {pos' : Pos} {value : Expr} {pos : Pos} {rest : List Stmt} {Q : Flow → Shared → Prop}
    (h : wpAny (model Pr w) A (eval value env) (fun v s₁ => wpAny (model Pr w) A (eval o env) (fun ov s₂ => wpAny (model Pr w) A (setAttr ov attr v) (fun _ s₃ => wpAny (model Pr w) A (execs rest env) Q E s₃) E s₂) E s₁) E s)
    (hs : swapsWith value (some (.Attribute o attr pos')) pos.line env = pure false := by with_unfolding_all rfl) : wpAny (model Pr w) A (execs (.Assign [.Attribute o attr pos'] value pos :: rest) env) Q E s :=
  wpAny_execs_cons (plainObj_wpAny_Assign_Attribute h hs)
theorem xs_setitem {o i : Expr} {pos' : Pos} {value : Expr} {pos : Pos} {rest : List Stmt} {Q : Flow → Shared → Prop}
    (h : wpAny (model Pr w) A (eval value env) (fun v s₁ => wpAny (model Pr w) A (eval o env) (fun ov s₂ => wpAny (model Pr w) A (eval i env) (fun iv s₃ => wpAny (model Pr w) A (setItem ov iv v) (fun _ s₄ => wpAny (model Pr w) A (execs rest env) Q E s₄) E s₃) E s₂) E s₁) E s)
    (hs : swapsWith value (some (.Subscript o i pos')) pos.line env = pure false := by rfl) : wpAny (model Pr w) A (execs (.Assign [.Subscript o i pos'] value pos :: rest) env) Q E s :=
  wpAny_execs_cons (wpAny_Assign_Subscript h hs)
theorem e_attr {value : Expr} {attr : Str} {pos : Pos} {Q : Value → Shared → Prop} (h : wpAny (model Pr w) A (eval value env) (fun o s₁ => wpAny (model Pr w) A (getAttr o attr true) Q E s₁) E s)
    (he : eval (.Attribute value attr pos) env = (do let o ← eval value env; standAt pos.atName; let r ← holding [o] (getAttr o attr true); letTemporaryGo value o r; pure r) := by rfl) : wpAny (model Pr w) A (eval (.Attribute value attr pos) env) Q E s := Attribute_any_ h he
theorem e_sub {value slice : Expr} {pos : Pos} {Q : Value → Shared → Prop} (h : wpAny (model Pr w) A (eval value env) (fun o s₁ => wpAny (model Pr w) A (eval slice env) (fun i s₂ => wpAny (model Pr w) A (subscriptTail value slice o i) Q E s₂) E s₁) E s) :
    wpAny (model Pr w) A (eval (.Subscript value slice pos) env) Q E s := Subscript_ h
end
def IsL (o : Obj) (vs : List Value) : Prop := o.cls = .type "list" ∧ ∃ n, o.data = .seq vs.toArray n
def IsT (o : Obj) (vs : List Value) : Prop := o.cls = .type "tuple" ∧ ∃ n, o.data = .seq vs.toArray n
theorem IsL.at {h : Heap} {l : Addr} {o : Obj} {vs : List Value} (i : IsL o vs) (e : h.get? l = some o) : h.IsList l vs.toArray := ⟨o, e, i.1, i.2⟩
theorem IsT.at {h : Heap} {l : Addr} {o : Obj} {vs : List Value} (i : IsT o vs) (e : h.get? l = some o) : IsTup h l vs.toArray := ⟨o, e, i.1, i.2⟩
theorem isL_mk (vs : List Value) (n : Nat) : IsL { cls := .type "list", data := .seq vs.toArray n } vs := ⟨rfl, n, rfl⟩
theorem isT_mk (vs : List Value) (n : Nat) : IsT { cls := .type "tuple", data := .seq vs.toArray n } vs := ⟨rfl, n, rfl⟩

section
variable {w : World} {R : Shared → Shared → Prop} {s₀ s s' : Shared} {L : Addr} {m m' : Str → Option Value} {k₀ k k' : Heap} {mu mu' : List (Addr × Obj)} {A : Around} {E : Value → Shared → Prop} {env : Env}
theorem IsList.mono {h h' : Heap} {l : Addr} {vs : Array Value} (x : h.IsList l vs) (hs : Sub h h') : h'.IsList l vs := let ⟨o, e, r⟩ := x; ⟨o, hs _ _ e, r⟩
theorem IsTup.mono {h h' : Heap} {l : Addr} {vs : Array Value} (x : IsTup h l vs) (hs : Sub h h') : IsTup h' l vs := let ⟨o, e, r⟩ := x; ⟨o, hs _ _ e, r⟩

theorem Fm.at0 {p : Addr × Obj} (F : Fm w R s₀ k₀ L m k (p :: mu) s) : s.heap.get? p.1 = some p.2 := (F.mt _ (.head _)).1
theorem Fm.at1 {p q : Addr × Obj} (F : Fm w R s₀ k₀ L m k (p :: q :: mu) s) : s.heap.get? q.1 = some q.2 := (F.mt _ (.tail _ (.head _))).1
theorem Fm.at2 {p q r : Addr × Obj} (F : Fm w R s₀ k₀ L m k (p :: q :: r :: mu) s) : s.heap.get? r.1 = some r.2 := (F.mt _ (.tail _ (.tail _ (.head _)))).1
theorem Fm.drop1 {p q : Addr × Obj} (F : Fm w R s₀ k₀ L m k (p :: q :: mu) s) : Fm w R s₀ k₀ L m k (p :: mu) s := F.swap.drop
theorem o_ladd {l b : Addr} {vs ws : List Value} {Q : Value → Shared → Prop} (F : Fm w R s₀ k₀ L m k mu s) (hl : s.heap.IsList l vs.toArray) (hb : s.heap.IsList b ws.toArray) (hz : vs.length + ws.length ≤ sizeLine)
    (h : ∀ d s', Fm w R s₀ k₀ L m k ((d, { cls := .type "list", data := .seq (vs ++ ws).toArray }) :: mu) s' → Q (.ref d) s') : wpAny (model Pr w) A (binaryOp .Add (.ref l) (.ref b)) Q E s := by
  obtain ⟨ot, hot, N⟩ := F.news
  exact add_lists F.fr N hl hb (fun h' F' N' => h _ _ (F.more (tk := s.toks) hot F' N' (Nat.le_refl _))) hz
theorem o_lmul1 {l : Addr} {v : Value} {k9 : Nat} {x : Int} {u : Tok} {Q : Value → Shared → Prop} (F : Fm w R s₀ k₀ L m k mu s) (hl : s.heap.get? l = some { cls := .type "list", data := .seq [v].toArray k9 }) (h0 : 0 ≤ x) (h1 : x ≤ 10000)
    (h : ∀ d s', Fm w R s₀ k₀ L m k ((d, { cls := .type "list", data := .seq (List.replicate x.toNat v).toArray }) :: mu) s' → Q (.ref d) s') : wpAny (model Pr w) A (binaryOp .Mult (.ref l) (.int x u)) Q E s := by
  obtain ⟨ot, hot, N⟩ := F.news
  have e : ∀ n : Nat, List.foldl (fun x1 x2 => x1 ++ x2) #[] (List.replicate n #[v]) = (List.replicate n v).toArray := by
    intro n
    have : ∀ (n : Nat) (a : Array Value), List.foldl (fun x1 x2 => x1 ++ x2) a (List.replicate n #[v]) = a ++ (List.replicate n v).toArray := by
      intro n
      induction n with
      | zero => intro a; simp
      | succ n ih => intro a; rw [List.replicate_succ, List.foldl_cons, ih, List.replicate_succ]; apply Array.ext'; simp
    rw [this]; simp
  refine mul_list F.fr N hl (by omega) (by omega) (by simp; omega) (fun h' F' N' => ?_)
  have e2 := e x.toNat
  simp only [List.isEmpty_toArray, List.isEmpty_cons, Bool.false_eq_true, if_false] at N'
  rw [show [v].toArray = #[v] from rfl, e2] at N'
  exact h _ _ (F.more (tk := s.toks) hot F' N' (Nat.le_refl _))
theorem c_len {l : Addr} {vs : List Value} {Q : Value → Shared → Prop} (F : Fm w R s₀ k₀ L m k mu s) (hl : s.heap.IsList l vs.toArray) (hz : vs.length < 2 ^ 62) (h : ∀ t s', Fm w R s₀ k₀ L m k mu s' → Q (.int vs.length t) s') : wpAny (model Pr w) A (call (.builtin "len") [.ref l]) Q E s :=
  len_list hl (by rw [List.size_toArray]; omega) (by rw [List.size_toArray]; exact h _ _ (F.tok _))
theorem c_lenT {l : Addr} {vs : List Value} {Q : Value → Shared → Prop} (F : Fm w R s₀ k₀ L m k mu s) (hl : IsTup s.heap l vs.toArray) (hz : vs.length < 2 ^ 62) (h : ∀ t s', Fm w R s₀ k₀ L m k mu s' → Q (.int vs.length t) s') : wpAny (model Pr w) A (call (.builtin "len") [.ref l]) Q E s :=
  len_tuple hl (by rw [List.size_toArray]; omega) (by rw [List.size_toArray]; exact h _ _ (F.tok _))
theorem c_bi {pos : Pos} {id : String} {e : Expr} {rest : List Expr} {Q : Value → Shared → Prop} (h : wpAny (model Pr w) A (spliced (backTo pos (starEach (e :: rest) env))) (fun vs s₁ => wpAny (model Pr w) A (call (.builtin id) vs) Q E s₁) E s)
    (he : starEach (e :: rest) env = (false, eval e env) :: starEach rest env := by rfl) (hp : (backTo pos (starEach rest env)).any (·.1) = false := by rfl) : wpAny (model Pr w) A (callWith pos (.builtin id) [] (backTo pos (starEach (e :: rest) env)) []) Q E s :=
  PyProof.Rows.callWith_builtin1 h he hp
theorem c_ty {pos : Pos} {T : String} {e : Expr} {rest : List Expr} {Q : Value → Shared → Prop} (h : wpAny (model Pr w) A (spliced (backTo pos (starEach (e :: rest) env))) (fun vs s₁ => wpAny (model Pr w) A (call (.type T) vs) Q E s₁) E s)
    (he : starEach (e :: rest) env = (false, eval e env) :: starEach rest env := by rfl) (hp : (backTo pos (starEach rest env)).any (·.1) = false := by rfl) : wpAny (model Pr w) A (callWith pos (.type T) [] (backTo pos (starEach (e :: rest) env)) []) Q E s :=
  PyProof.Rows.callWith_type1 h he hp
theorem e_call {func : Expr} {args : List Expr} {pos : Pos} {Q : Value → Shared → Prop} (h : wpAny (model Pr w) A (eval func env) (fun f s₁ => wpAny (model Pr w) A (callWith pos f [] (backTo pos (starEach args env)) []) Q E s₁) E s)
    (he : eval (.Call func args [] pos) env = (do callWith pos (← eval func env) [] (backTo pos (starEach args env)) (backToKw pos (keywordEach [] env))) := by rfl) : wpAny (model Pr w) A (eval (.Call func args [] pos) env) Q E s := Call_ h he
def CallF (w : World) (A : Around) (f : Addr) (vs : List Value) (Q : Value → Shared → Prop) (E : Value → Shared → Prop) (s : Shared) : Prop := (KK w).In s.heap ∧ wpAny (model Pr w) A (call (.ref f) vs) Q E s
theorem c_fn {pos : Pos} {f : Addr} {first : List Value} {e : Expr} {rest : List Expr} {Q : Value → Shared → Prop} (F : Fm w R s₀ k₀ L m k mu s) (hk : keepIn (KK w) (.ref f) = true) (h : wpAny (model Pr w) A (spliced (backTo pos (starEach (e :: rest) env))) (fun vs s₁ => CallF w A f (first ++ vs) Q E s₁) E s)
    (he : starEach (e :: rest) env = (false, eval e env) :: starEach rest env := by rfl) (hp : (backTo pos (starEach rest env)).any (·.1) = false := by rfl) : wpAny (model Pr w) A (callWith pos (.ref f) first (backTo pos (starEach (e :: rest) env)) []) Q E s :=
  callWith_K F.gd.X hk h he hp
theorem c_fn0 {pos : Pos} {f : Addr} {first : List Value} {Q : Value → Shared → Prop} (F : Fm w R s₀ k₀ L m k mu s) (hk : keepIn (KK w) (.ref f) = true) (h : wpAny (model Pr w) A (call (.ref f) (first ++ [])) Q E s) : wpAny (model Pr w) A (callWith pos (.ref f) first (backTo pos (starEach [] env)) []) Q E s :=
  callWith_K0 F.gd.X hk h
theorem callF {f : Addr} {vs : List Value} {Q : Value → Shared → Prop} (F : Fm w R s₀ k₀ L m k mu s) (h : wpAny (model Pr w) A (call (.ref f) vs) Q E s) : CallF w A f vs Q E s := ⟨F.gd.X, h⟩
theorem use_ret {f : Addr} {vs : List Value} {Out : Heap → Value → Prop} {Q : Value → Shared → Prop} (F : Fm w R s₀ k₀ L m k mu s) (hc : wpAny (model Pr w) A (call (.ref f) vs) (Ret R s k Out) (fun _ _ => False) s)
    (h : ∀ v k' s', Sub k k' → Out k' v → Fm w R s₀ k₀ L m k' mu s' → Q v s') : wpAny (model Pr w) A (call (.ref f) vs) Q E s :=
  wpAny_mono hc (fun v s' r => let ⟨k', a, b, F'⟩ := r.use F; h v k' s' a b F') fun _ _ x => x.elim
theorem c_tupleL {l : Addr} {vs : List Value} {Q : Value → Shared → Prop} (F : Fm w R s₀ k₀ L m k mu s) (hl : s.heap.IsList l vs.toArray) (hz : vs.length ≤ sizeLine) (h : ∀ d s', Fm w R s₀ k₀ L m k ((d, { cls := .type "tuple", data := .seq vs.toArray }) :: mu) s' → Q (.ref d) s') :
    wpAny (model Pr w) A (call (.type "tuple") [.ref l]) Q E s :=
  call_tuple_list hl (fun h' hk => h _ _ ((F.grow (tk := s.toks) hk).push _)) (by rw [List.size_toArray]; exact hz)
theorem o_getL {l : Addr} {vs : List Value} {i : Int} {t : Tok} {v : Value} {value slice : Expr} {Q : Value → Shared → Prop} (hl : s.heap.IsList l vs.toArray) (h0 : 0 ≤ i) (h1 : i < 2 ^ 62) (hv : vs[i.toNat]? = some v) (h : Q v s)
    (hs : subscripted slice false (.ref l) (.int i t) = operate [.ref l, .int i t] (getItem (.ref l) (.int i t)) := by with_unfolding_all rfl) : wpAny (model Pr w) A (subscriptTail value slice (.ref l) (.int i t)) Q E s :=
  tail_any hl.typeIs slot_list_getitem.lookup (wpAny_getItem_list hl h0 (by omega) (by simpa using hv) h) hs
theorem o_getT {l : Addr} {vs : List Value} {i : Int} {t : Tok} {v : Value} {value slice : Expr} {Q : Value → Shared → Prop} (hl : IsTup s.heap l vs.toArray) (h0 : 0 ≤ i) (h1 : i < 2 ^ 62) (hv : vs[i.toNat]? = some v) (h : Q v s)
    (hs : subscripted slice false (.ref l) (.int i t) = operate [.ref l, .int i t] (getItem (.ref l) (.int i t)) := by with_unfolding_all rfl) : wpAny (model Pr w) A (subscriptTail value slice (.ref l) (.int i t)) Q E s := by
  have hlt : i.toNat < vs.length := by
    rcases Nat.lt_or_ge i.toNat vs.length with q | q
    · exact q
    · rw [List.getElem?_eq_none q] at hv; cases hv
  exact item_tupleT hl (by omega) (by omega) (j := i.toNat) (by unfold seqIndex?; simp; omega) hv h hs
theorem o_setL {d : Addr} {o : Obj} {vs : List Value} {i : Int} {t : Tok} {v : Value} {Q : Unit → Shared → Prop} (F : Fm w R s₀ k₀ L m k ((d, o) :: mu) s) (hl : IsL o vs) (h0 : 0 ≤ i) (h1 : i < 2 ^ 62) (hi : i.toNat < vs.length)
    (h : ∀ o' s', IsL o' (vs.set i.toNat v) → Fm w R s₀ k₀ L m k ((d, o') :: mu) s' → Q () s') : wpAny (model Pr w) A (setItem (.ref d) (.int i t) v) Q E s := by
  refine wpAny_setItem_list (hl.at (F.mt _ (.head _)).1) h0 (by omega) (by rw [List.size_toArray]; omega) fun h' hl' hs' => ?_
  obtain ⟨o', e, c, n, hd⟩ := hl'
  exact h o' _ ⟨c, n, by rw [hd]; simp⟩ (F.turn (tk := s.toks) hs' e)
end
theorem gl_ws (w : World) : nsIn (KK w) mainGlobals (Str.ofString "Whitespace") = some (some (.ref 104)) := by rfl
theorem kp_ws (w : World) : keepIn (KK w) (.ref 104) = true := by rfl
theorem gl_piece (w : World) : nsIn (KK w) mainGlobals (Str.ofString "_law_piece") = some (some (.ref 115)) := by rfl
theorem kp_piece (w : World) : keepIn (KK w) (.ref 115) = true := by rfl
theorem gl_column (w : World) : nsIn (KK w) mainGlobals (Str.ofString "_law_column") = some (some (.ref 122)) := by rfl
theorem kp_column (w : World) : keepIn (KK w) (.ref 122) = true := by rfl
theorem gl_caller (w : World) : nsIn (KK w) mainGlobals (Str.ofString "_law_caller") = some (some (.ref 129)) := by rfl
theorem kp_caller (w : World) : keepIn (KK w) (.ref 129) = true := by rfl
theorem gl_entry (w : World) : nsIn (KK w) mainGlobals (Str.ofString "_law_entry") = some (some (.ref 134)) := by rfl
theorem kp_entry (w : World) : keepIn (KK w) (.ref 134) = true := by rfl
theorem gl_due (w : World) : nsIn (KK w) mainGlobals (Str.ofString "_law_due") = some (some (.ref 139)) := by rfl
theorem kp_due (w : World) : keepIn (KK w) (.ref 139) = true := by rfl
theorem gl_first (w : World) : nsIn (KK w) mainGlobals (Str.ofString "_law_first_come") = some (some (.ref 144)) := by rfl
theorem kp_first (w : World) : keepIn (KK w) (.ref 144) = true := by rfl
theorem gl_sums (w : World) : nsIn (KK w) mainGlobals (Str.ofString "_law_sums") = some (some (.ref 151)) := by rfl
theorem kp_sums (w : World) : keepIn (KK w) (.ref 151) = true := by rfl
theorem gl_hold (w : World) : nsIn (KK w) mainGlobals (Str.ofString "_law_sums_hold") = some (some (.ref 158)) := by rfl
theorem kp_hold (w : World) : keepIn (KK w) (.ref 158) = true := by rfl
theorem gl_counts (w : World) : nsIn (KK w) mainGlobals (Str.ofString "_law_counts") = some (some (.ref 163)) := by rfl
theorem kp_counts (w : World) : keepIn (KK w) (.ref 163) = true := by rfl
theorem gl_back (w : World) : nsIn (KK w) mainGlobals (Str.ofString "_law_comes_back") = some (some (.ref 168)) := by rfl
theorem kp_back (w : World) : keepIn (KK w) (.ref 168) = true := by rfl
theorem gl_one (w : World) : nsIn (KK w) mainGlobals (Str.ofString "_law_one_out_holds") = some (some (.ref 173)) := by rfl
theorem kp_one (w : World) : keepIn (KK w) (.ref 173) = true := by rfl
theorem gl_addf (w : World) : nsIn (KK w) mainGlobals (Str.ofString "add_func_stats") = some (some (.ref 28)) := by rfl
theorem kp_addf (w : World) : keepIn (KK w) (.ref 28) = true := by rfl
theorem gl_addc (w : World) : nsIn (KK w) mainGlobals (Str.ofString "add_callers") = some (some (.ref 35)) := by rfl
theorem kp_addc (w : World) : keepIn (KK w) (.ref 35) = true := by rfl
theorem gl_cc (w : World) : nsIn (KK w) mainGlobals (Str.ofString "count_calls") = some (some (.ref 42)) := by rfl
theorem kp_cc (w : World) : keepIn (KK w) (.ref 42) = true := by rfl
theorem kp_lon (w : World) : keepIn (KK w) (.ref 66) = true := by rfl
theorem kp_ind (w : World) : keepIn (KK w) (.ref 73) = true := by rfl
theorem kp_equ (w : World) : keepIn (KK w) (.ref 80) = true := by rfl
theorem kp_wit (w : World) : keepIn (KK w) (.ref 87) = true := by rfl
theorem kp_les (w : World) : keepIn (KK w) (.ref 94) = true := by rfl
theorem bn_len (w : World) : nsIn (KK w) mainGlobals (Str.ofString "len") = some none := by rfl
theorem bn_range (w : World) : nsIn (KK w) mainGlobals (Str.ofString "range") = some none := by rfl
theorem bn_max (w : World) : nsIn (KK w) mainGlobals (Str.ofString "max") = some none := by rfl
theorem bn_sum (w : World) : nsIn (KK w) mainGlobals (Str.ofString "sum") = some none := by rfl
theorem bn_sorted (w : World) : nsIn (KK w) mainGlobals (Str.ofString "sorted") = some none := by rfl
theorem bn_isi (w : World) : nsIn (KK w) mainGlobals (Str.ofString "isinstance") = some none := by rfl
theorem bn_tuple (w : World) : nsIn (KK w) mainGlobals (Str.ofString "tuple") = some none := by rfl
theorem bn_zip (w : World) : nsIn (KK w) mainGlobals (Str.ofString "zip") = some none := by rfl
theorem bn_list (w : World) : nsIn (KK w) mainGlobals (Str.ofString "list") = some none := by rfl
section
variable {w : World} {R : Shared → Shared → Prop} {s₀ s s' : Shared} {L : Addr} {m m' : Str → Option Value} {k₀ k k' : Heap} {mu mu' : List (Addr × Obj)} {A : Around} {E : Value → Shared → Prop} {env : Env}
theorem g_meth {x f : Addr} {l : List (Str × Value)} {name : Str} {pl : Sem Bool} {Q : Value × List Value → Shared → Prop} (F : Fm w R s₀ k₀ L m k mu s) (hi : InsAt s.heap x l) (hf : findIn (KK w) (.ref 104) name = some (some (.ref f))) (ht : isFn (KK w) (.ref f) = true)
    (hl : l.lookup name = none) (h : Q (.ref f, [.ref x]) s) : wpAny (model Pr w) A (getMethod (.ref x) name pl) Q E s := by
  obtain ⟨dx, es, n, a, b, c⟩ := hi
  exact method_inst F.fr F.K₀ (ox := instObj 104 dx) ⟨a, rfl, rfl, b⟩ (ws_plain w name) hf ht ((c.get name).trans (by rw [hl])) h
theorem isFn_lon (w : World) : isFn (KK w) (.ref 66) = true := by rfl
theorem isFn_ind (w : World) : isFn (KK w) (.ref 73) = true := by rfl
theorem isFn_equ (w : World) : isFn (KK w) (.ref 80) = true := by rfl
theorem isFn_wit (w : World) : isFn (KK w) (.ref 87) = true := by rfl
theorem isFn_les (w : World) : isFn (KK w) (.ref 94) = true := by rfl
theorem xs_expr {e : Expr} {pos : Pos} {rest : List Stmt} {Q : Flow → Shared → Prop} (h : wpAny (model Pr w) A (eval e env) (fun v s' => v = .none ∧ wpAny (model Pr w) A (execs rest env) Q E s') E s) (hi : interactive env = false := by rfl) (hs : swapsWith e none pos.line env = pure false := by rfl) :
    wpAny (model Pr w) A (execs (.Expr e pos :: rest) env) Q E s :=
  wpAny_execs_cons (wpAny_Expr (wpAny_mono h (fun v s' ⟨a, b⟩ => by subst a; exact b) fun _ _ x => x) hi hs)
theorem ty_append : typeOf (.builtin "list.append") = pure (.type "method_descriptor") := by kernel_rfl
theorem ty_count : typeOf (.builtin "list.count") = pure (.type "method_descriptor") := by kernel_rfl
theorem ty_items : typeOf (.builtin "dict.items") = pure (.type "method_descriptor") := by kernel_rfl
theorem ty_values : typeOf (.builtin "dict.values") = pure (.type "method_descriptor") := by kernel_rfl
theorem ty_split : typeOf (.builtin "str.split") = pure (.type "method_descriptor") := by kernel_rfl
theorem ty_join : typeOf (.builtin "str.join") = pure (.type "method_descriptor") := by kernel_rfl
abbrev lst (vs : List Value) (n : Nat) : Obj := { cls := .type "list", data := .seq vs.toArray n }
theorem gm_append {d : Addr} {vs : List Value} {n : Nat} {pl : Sem Bool} {Q : Value × List Value → Shared → Prop} (hd : s.heap.get? d = some (lst vs n)) (h : Q (.builtin "list.append", [.ref d]) s) : wpAny (model Pr w) A (getMethod (.ref d) "append" pl) Q E s :=
  getMethod_builtin ⟨_, hd, rfl⟩ PySem.F.plainAttrs_list slot_list_append ty_append (fun a e => by cases e; exact ⟨_, hd, rfl⟩) h
theorem c_append {d : Addr} {vs : List Value} {n : Nat} {v : Value} {Q : Value → Shared → Prop} (F : Fm w R s₀ k₀ L m k ((d, lst vs n) :: mu) s) (hz : vs.length ≤ 10000) (h : ∀ n' s', Fm w R s₀ k₀ L m k ((d, lst (vs ++ [v]) n') :: mu) s' → Q .none s') :
    wpAny (model Pr w) A (call (.builtin "list.append") [.ref d, v]) Q E s := by
  refine wpAny_list_append_plain (hsz := by rw [List.size_toArray, sizeLine_eq]; omega) (items := vs.toArray) ⟨n, F.at0⟩ fun h' hl' hs' => ?_
  obtain ⟨n', e⟩ := hl'
  rw [List.push_toArray] at e
  exact h n' _ (F.turn (tk := s.toks) hs' e)
theorem c_m1 {pos : Pos} {id : String} {first : List Value} {e : Expr} {rest : List Expr} {Q : Value → Shared → Prop} (h : wpAny (model Pr w) A (spliced (backTo pos (starEach (e :: rest) env))) (fun vs s₁ => wpAny (model Pr w) A (call (.builtin id) (first ++ vs)) Q E s₁) E s)
    (he : starEach (e :: rest) env = (false, eval e env) :: starEach rest env := by rfl) (hp : (backTo pos (starEach rest env)).any (·.1) = false := by rfl) : wpAny (model Pr w) A (callWith pos (.builtin id) first (backTo pos (starEach (e :: rest) env)) []) Q E s :=
  callWith_method1 h he hp
end
section
variable {w : World} {R : Shared → Shared → Prop} {s₀ s s' : Shared} {L C : Addr} {m m' mc : Str → Option Value} {k₀ k k' : Heap} {mu mu' : List (Addr × Obj)} {A : Around} {E : Value → Shared → Prop} {env : Env}
theorem Fm.into {oc : Obj} (F : Fm w R s₀ k₀ L m k ((C, oc) :: mu) s) (hc : s.heap.Ns C mc) : ∃ k' ol, k'.get? L = some ol ∧ (∀ h : Heap, h.get? L = some ol → h.Ns L m) ∧ Sub k k' ∧ Fm w R s₀ k₀ C mc k' mu s := by
  obtain ⟨ol, es, ep, hl, r⟩ := F.ns
  obtain ⟨a, b, c, d⟩ := F.mt _ (.head _)
  dsimp only at a b c d
  have nd := List.nodup_cons.mp F.nd
  refine ⟨add k s L, ol, add_self hl, fun h e => ⟨ol, es, ep, e, r⟩, add_sub F.led, ⟨F.hR, F.g₀, hc, F.rel, d, add_heap, F.ext.trans (add_sub F.led), fun x o q => ?_, ?_, ?_, fun p hp => ⟨(F.mt p (.tail _ hp)).1, ?_, ?_, (F.mt p (.tail _ hp)).2.2.2⟩, nd.2⟩⟩
  · rcases add_inv F.led q with q | q
    · exact F.fresh x o q
    · exact .inr (q ▸ F.new)
  · cases q : (add k s L).get? C with
    | none => rfl
    | some o' => rcases add_inv F.led q with q | q
                 · rw [c] at q; cases q
                 · exact absurd q b
  · cases q : (add k s L).get? Pt with
    | none => rfl
    | some o' => rcases add_inv F.led q with q | q
                 · rw [F.kP] at q; cases q
                 · exact absurd q.symm F.L_ne
  · exact fun q => nd.1 (List.mem_map.mpr ⟨p, hp, q⟩)
  · cases q : (add k s L).get? p.1 with
    | none => rfl
    | some o' => rcases add_inv F.led q with q | q
                 · rw [(F.mt p (.tail _ hp)).2.2.1] at q; cases q
                 · exact absurd q (F.mt p (.tail _ hp)).2.1
theorem Fm.outof {ol : Obj} (F : Fm w R s₀ k₀ C mc k' mu s) (hL : k'.get? L = some ol) (hn : ∀ h : Heap, h.get? L = some ol → h.Ns L m) (hnew : s₀.heap.objs.size ≤ L) (h0 : k₀.get? L = none) :
    ∃ oc, (∀ h : Heap, h.get? C = some oc → h.Ns C mc) ∧ Fm w R s₀ k₀ L m (k'.hide L) ((C, oc) :: mu) s := by
  obtain ⟨oc, es, ep, hc, r⟩ := F.ns
  have hLC : L ≠ C := by rintro rfl; rw [F.kL] at hL; cases hL
  have nk : ∀ b, k'.get? b = none → (k'.hide L).get? b = none := fun b e => by
    cases q : (k'.hide L).get? b with
    | none => rfl
    | some o => rw [Heap.of_hide q] at e; cases e
  refine ⟨oc, fun h e => ⟨oc, es, ep, e, r⟩, ⟨F.hR, F.g₀, hn _ (F.led _ _ hL), F.rel, hnew, fun b o e => F.led b o (Heap.of_hide e), fun b o e => (Heap.hide_ne _ ?_).trans (F.ext b o e), fun b o e => F.fresh b o (Heap.of_hide e), Heap.hide_self _ _, nk _ F.kP, fun p hp => ?_, ?_⟩⟩
  · rintro rfl; rw [h0] at e; cases e
  · rcases List.mem_cons.mp hp with rfl | hp
    · exact ⟨hc, Ne.symm hLC, nk _ F.kL, F.new⟩
    · refine ⟨(F.mt p hp).1, ?_, nk _ (F.mt p hp).2.2.1, (F.mt p hp).2.2.2⟩
      intro q
      have := (F.mt p hp).2.2.1
      rw [q, hL] at this; cases this
  · rw [List.map_cons, List.nodup_cons]
    refine ⟨fun q => ?_, F.nd⟩
    obtain ⟨p, hp, e⟩ := List.mem_map.mp q
    exact (F.mt p hp).2.1 e
theorem Fm.wreck {d : Addr} {o : Obj} (F : Fm w R s₀ k₀ L m k ((d, o) :: mu) s) {h' : Heap} {tk : Nat} (hs : Heap.SameBut d s.heap h') : Fm w R s₀ k₀ L m k mu { s with heap := h', toks := tk } where
  hR := F.hR
  g₀ := F.g₀
  ns := F.ns.sameBut hs (Ne.symm (F.mt _ (.head _)).2.1)
  rel := F.hR.upd F.g₀ F.rel fun b o l e => (hs.2 b (Nat.ne_of_lt (Nat.lt_of_lt_of_le (some_lt l) (F.mt _ (.head _)).2.2.2))).trans e
  new := F.new
  led := fun b o e => (hs.2 b (by rintro rfl; have q := (F.mt _ (.head _)).2.2.1; dsimp only at q; rw [q] at e; cases e)).trans (F.led b o e)
  ext := F.ext
  fresh := F.fresh
  kL := F.kL
  kP := F.kP
  mt := fun p hp => by
    have nd := F.nd
    rw [List.map_cons, List.nodup_cons] at nd
    exact ⟨(hs.2 _ fun q => nd.1 (List.mem_map.mpr ⟨p, hp, q⟩)).trans (F.mt p (.tail _ hp)).1, (F.mt p (.tail _ hp)).2⟩
  nd := (List.nodup_cons.mp F.nd).2
theorem Fm.iter {I : Addr} {o o' : Obj} {wr : List Addr} (F : Fm w R s₀ k₀ L m k ((I, o) :: mu) s) {h' : Heap} {tk : Nat} (hwr : ∀ b ∈ wr, b = I) (hk : ∀ b o, b ∉ wr → s.heap.get? b = some o → h'.get? b = some o) (ho : h'.get? I = some o') :
    Fm w R s₀ k₀ L m k ((I, o') :: mu) { s with heap := h', toks := tk } := by
  have nI : ∀ b, b ≠ I → b ∉ wr := fun b hb q => hb (hwr b q)
  have nd := List.nodup_cons.mp F.nd
  have M := F.mt _ (.head _)
  refine ⟨F.hR, F.g₀, ?_, F.hR.upd F.g₀ F.rel fun b o l e => hk b o (nI b ?_) e, F.new, fun b o e => hk b o (nI b ?_) (F.led b o e), F.ext, F.fresh, F.kL, F.kP, fun p hp => ?_, F.nd⟩
  · obtain ⟨ol, es, ep, e, r⟩ := F.ns
    exact ⟨ol, es, ep, hk _ _ (nI _ (Ne.symm M.2.1)) e, r⟩
  · rintro rfl; exact absurd (some_lt l) (Nat.not_lt.mpr M.2.2.2)
  · rintro rfl; have q := M.2.2.1; dsimp only at q; rw [q] at e; cases e
  · rcases List.mem_cons.mp hp with rfl | hp
    · exact ⟨ho, M.2⟩
    · exact ⟨hk _ _ (nI _ fun q => nd.1 (List.mem_map.mpr ⟨p, hp, q⟩)) (F.mt p (.tail _ hp)).1, (F.mt p (.tail _ hp)).2⟩
theorem Fm.iterEnd {I : Addr} {o : Obj} {wr : List Addr} (F : Fm w R s₀ k₀ L m k ((I, o) :: mu) s) {h' : Heap} {tk : Nat} (hwr : ∀ b ∈ wr, b = I) (hk : ∀ b o, b ∉ wr → s.heap.get? b = some o → h'.get? b = some o) :
    Fm w R s₀ k₀ L m k mu { s with heap := h', toks := tk } := by
  have nI : ∀ b, b ≠ I → b ∉ wr := fun b hb q => hb (hwr b q)
  have nd := List.nodup_cons.mp F.nd
  have M := F.mt _ (.head _)
  refine ⟨F.hR, F.g₀, ?_, F.hR.upd F.g₀ F.rel fun b o l e => hk b o (nI b ?_) e, F.new, fun b o e => hk b o (nI b ?_) (F.led b o e), F.ext, F.fresh, F.kL, F.kP, fun p hp => ?_, nd.2⟩
  · obtain ⟨ol, es, ep, e, r⟩ := F.ns
    exact ⟨ol, es, ep, hk _ _ (nI _ (Ne.symm M.2.1)) e, r⟩
  · rintro rfl; exact absurd (some_lt l) (Nat.not_lt.mpr M.2.2.2)
  · rintro rfl; have q := M.2.2.1; dsimp only at q; rw [q] at e; cases e
  · exact ⟨hk _ _ (nI _ fun q => nd.1 (List.mem_map.mpr ⟨p, hp, q⟩)) (F.mt p (.tail _ hp)).1, (F.mt p (.tail _ hp)).2⟩
theorem Fm.k₀L (F : Fm w R s₀ k₀ L m k mu s) : k₀.get? L = none := by
  cases q : k₀.get? L with
  | none => rfl
  | some o => have := F.ext _ _ q; rw [F.kL] at this; cases this

def CompV (w : World) (A : Around) (elt iter : Expr) (x : Str) (px : Pos) (scope : Scope) (cl : List (Str × Addr)) (pos : Pos) (env : Env) (use : Option (Value → Sem Unit)) (Q : Value → Shared → Prop) (v : Value) (s : Shared) : Prop :=
  wpAny (model Pr w) A (pyIter v) (fun it s₂ => wpAny (model Pr w) A (newList []) (fun acc s₃ =>
    wpAny (model Pr w) A (newFunctionEnv scope env.globals cl [] env.qual none .none (some env)) (fun cenv s₄ =>
      codeAny (model Pr w) A (.compStart (.ListComp elt [⟨.Name x px, iter, [], 0⟩] scope pos) 0 it acc { cenv with scope := relabel scope env }) (compPost (model Pr w) A (fun _ _ => False) use Q acc cenv.locals) s₄) (fun _ _ => False) s₃) (fun _ _ => False) s₂) (fun _ _ => False) s
theorem e_comp {elt iter : Expr} {x : Str} {px : Pos} {scope : Scope} {cl : List (Str × Addr)} {pos : Pos} {Q : Value → Shared → Prop} (hclos : closureFor scope env = pure cl)
    (h : wpAny (model Pr w) A (eval iter env) (CompV w A elt iter x px scope cl pos env none Q) (fun _ _ => False) s)
    (hkind : scope.kind = .function := by rfl) (hnames : ∀ y ∈ scope.names, y.2 = .local → scope.names.lookup y.1 = some .local := by decide) (hs : ∀ x, foldedSetIterable iter env x = pure x := by intro _; rfl) :
    wpAny (model Pr w) A (eval (.ListComp elt [⟨.Name x px, iter, [], 0⟩] scope pos) env) Q (fun _ _ => False) s := by
  rw [eval_ListComp]
  exact wpAny_comprehension_free (use := none) rfl hs hclos hkind hnames h
theorem xs_comp {elt iter : Expr} {x y : Str} {px py : Pos} {scope : Scope} {cl : List (Str × Addr)} {pos spos : Pos} {rest : List Stmt} {Q : Flow → Shared → Prop} (hclos : closureFor scope env = pure cl)
    (h : wpAny (model Pr w) A (eval iter env) (CompV w A elt iter x px scope cl pos env (some (assign (.Name y py) env)) (fun _ s' => wpAny (model Pr w) A (execs rest env) Q (fun _ _ => False) s')) (fun _ _ => False) s)
    (hsw : swapsWith (.ListComp elt [⟨.Name x px, iter, [], 0⟩] scope pos) (some (.Name y py)) spos.line env = pure true := by rfl)
    (hkind : scope.kind = .function := by rfl) (hnames : ∀ y ∈ scope.names, y.2 = .local → scope.names.lookup y.1 = some .local := by decide) (hs : ∀ x, foldedSetIterable iter env x = pure x := by intro _; rfl) :
    wpAny (model Pr w) A (execs (.Assign [.Name y py] (.ListComp elt [⟨.Name x px, iter, [], 0⟩] scope pos) spos :: rest) env) Q (fun _ _ => False) s := by
  refine wpAny_execs_cons ?_
  rw [exec_Assign_Name_used _ _ _ _ hsw]
  refine wpAny_bind (wpAny_standAt (wpAny_bind ?_))
  show wpAny _ A (do let _ ← comprehension (.ListComp elt [⟨.Name x px, iter, [], 0⟩] scope pos) scope env _ (newList []) false (eval iter env) (some (assign (.Name y py) env))) _ _ s
  exact wpAny_bind (wpAny_mono (wpAny_comprehension_free (use := some (assign (.Name y py) env)) rfl hs hclos hkind hnames h) (fun _ s' hq => wpAny_pure (wpAny_pure hq)) fun _ _ e => e)

def Behind (w : World) (A : Around) (use : Option (Value → Sem Unit)) (Q : Value → Shared → Prop) (R : Shared → Shared → Prop) (s₀ : Shared) (k₀ : Heap) (L C : Addr) (mc m : Str → Option Value) (k : Heap) (mu : List (Addr × Obj)) (v : Value) (s : Shared) : Prop :=
  match use with
  | none => ∀ s', Fm w R s₀ k₀ L m k mu s' → Q v s'
  | some u => ∀ oc, Fm w R s₀ k₀ L m k ((C, oc) :: mu) s → wpAny (model Pr w) A (u v) (fun _ s' => ∃ m' mu' k', Fm w R s₀ k₀ L m' k' ((C, oc) :: mu') s' ∧ ∀ s'', Fm w R s₀ k₀ L m' k' mu' s'' → Q .none s'') (fun _ _ => False) s

theorem comp_any {elt iter : Expr} {x : Str} {px : Pos} {scope : Scope} {cl : List (Str × Addr)} {pos : Pos} {use : Option (Value → Sem Unit)} {I : Addr} {o : Obj} {fp wr : List Addr} {n : Nat} {P : Nat → Value → Prop} {St : Nat → Heap → Prop} {Q : Value → Shared → Prop}
    (W : Walks Pr w A I fp wr n P St) (F : Fm w R s₀ k₀ L m k ((I, o) :: mu) s) (hst : St 0 s.heap) (hwr : ∀ b ∈ wr, b = I) (hfp : ∀ b ∈ fp, b = I ∨ ∃ ob, k.get? b = some ob) (hex : ∀ i h, St i h → ∃ o, h.get? I = some o) (hz : n ≤ 10000)
    (J : Nat → List Value → Prop) (hJ : J 0 [])
    (turn : ∀ i v ys C mc k' mu' s, i < n → P i v → Sub k k' → J i ys → mc x = some v → Fm w R s₀ k₀ C mc k' mu' s →
      wpAny (model Pr w) A (eval elt (compEnvC scope cl C env)) (fun y s₂ => ∃ k'' mc', Sub k' k'' ∧ J (i + 1) (ys ++ [y]) ∧ Fm w R s₀ k₀ C mc' k'' mu' s₂) (fun _ _ => False) s)
    (done : ∀ D n' ys k' C mc s, J n ys → Sub k k' → Behind w A use Q R s₀ k₀ L C mc m k' ((D, lst ys n') :: mu) (.ref D) s)
    (hcell : ∀ y ∈ scope.names, y.2 ≠ .cell := by decide) (hkind : scope.kind = .function := by rfl) (hx : scope.names.lookup x = some .local := by rfl) :
    wpAny (model Pr w) A (newList []) (fun acc s₃ => wpAny (model Pr w) A (newFunctionEnv scope env.globals cl [] env.qual none .none (some env)) (fun cenv s₄ =>
      codeAny (model Pr w) A (.compStart (.ListComp elt [⟨.Name x px, iter, [], 0⟩] scope pos) 0 (.ref I) acc { cenv with scope := relabel scope env }) (compPost (model Pr w) A (fun _ _ => False) use Q acc cenv.locals) s₄) (fun _ _ => False) s₃) (fun _ _ => False) s := by
  refine o_list F (by exact Nat.zero_le _) fun D s₁ F₁ => ?_
  have hstI : St 0 s₁.heap := by
    refine W.frame _ _ _ hst fun b hb ob e => ?_
    rcases hfp b hb with rfl | ⟨ob', q⟩
    · have h1 := F.at0; dsimp only at h1
      rw [h1] at e; cases e
      exact F₁.at1
    · have := F.led b ob' q
      rw [e] at this; cases this
      exact F₁.led b ob q
  refine wpAny_newFunctionEnv hcell (by intro y hy; simp at hy) (fun h₁ hns₁ hsb₁ => ?_) hkind
  have F₂ : Fm w R s₀ k₀ L m k ((s₁.heap.objs.size, { cls := .type "dict", data := .dict #[] }) :: (D, lst [] 0) :: (I, o) :: mu) { s₁ with heap := s₁.heap.push { cls := .type "dict", data := .dict #[] } } := F₁.push _
  obtain ⟨oc, es, ep, hoc, rc⟩ := hns₁
  have F₃ : Fm w R s₀ k₀ L m k ((s₁.heap.objs.size, oc) :: (D, lst [] 0) :: (I, o) :: mu) { s₁ with heap := h₁, toks := s₁.toks + ([] : List (Str × Value)).length } := F₂.turn (tk := s₁.toks + ([] : List (Str × Value)).length) hsb₁ hoc
  have hst₃ : St 0 h₁ := by
    refine W.frame _ _ _ hstI fun b hb ob e => ?_
    rcases hfp b hb with rfl | ⟨ob', q⟩
    · have h1 := F₁.at1; dsimp only at h1
      rw [h1] at e; cases e
      exact F₃.at2
    · have := F₁.led b ob' q
      rw [e] at this; cases this
      exact F₃.led b ob q
  obtain ⟨kI, ol, hkL, hnL, hsub, F₄⟩ := F₃.into (mc := fun x => ([] : List (Str × Value)).reverse.lookup x) ⟨oc, es, ep, hoc, rc⟩
  have loop : ∀ s₃ : Shared, s₃ = { s₁ with heap := h₁, toks := s₁.toks + ([] : List (Str × Value)).length } →
      codeAny (model Pr w) A (.compLoop (.ListComp elt [⟨.Name x px, iter, [], 0⟩] scope pos) 0 (.ref I) (.ref D) (compEnvC scope cl s₁.heap.objs.size env)) (compPost (model Pr w) A (fun _ _ => False) use Q (.ref D) s₁.heap.objs.size) s₃ := by
    rintro s₃ rfl
    refine codeAny_compLoop_tests (fun c s => ∃ i mc k' ys n' o', c = n + 1 - i ∧ i ≤ n ∧ St i s.heap ∧ J i ys ∧ ys.length = i ∧ Sub kI k' ∧ Fm w R s₀ k₀ s₁.heap.objs.size mc k' ((D, lst ys n') :: (I, o') :: mu) s) ?_ (n + 1)
      ⟨0, _, kI, [], 0, o, rfl, Nat.zero_le _, hst₃, hJ, rfl, Sub.refl _, F₄⟩
    rintro c s ⟨i, mc, k', ys, n', o', rfl, hi, hst, hJ, hlen, hs, F⟩
    by_cases hlt : i < n
    · refine W.item i s _ _ hlt hst fun v h' tk hP hst' hk => ?_
      obtain ⟨o'', ho''⟩ := hex _ _ hst'
      have F' : Fm w R s₀ k₀ s₁.heap.objs.size mc k' ((D, lst ys n') :: (I, o'') :: mu) { s with heap := h', toks := tk } := (F.swap.iter (tk := tk) hwr hk ho'').swap
      refine wpAny_assign_Name (x_store F' (fun s₂ F₂ => ?_) rfl (by simp [compEnvC, relabel, hkind]) (lookup_relabel_local hx))
      refine wpAny_tests_nil ?_
      simp only [if_true]
      refine wpAny_mono (turn i v ys _ _ k' _ _ hlt hP (hsub.trans hs) hJ up_same F₂) (fun y s₃ ⟨k'', mc', hs', hJ', F₃⟩ => ?_) fun _ _ x => x.elim
      refine c_append F₃ (by omega) fun n'' s₄ F₄ => ⟨n + 1 - (i + 1), by omega, i + 1, mc', k'', ys ++ [y], n'', o'', rfl, hlt, W.frame _ _ _ hst' fun b hb ob e => ?_, hJ', by simp [hlen], hs.trans hs', F₄⟩
      rcases hfp b hb with rfl | ⟨ob', q⟩
      · rw [ho''] at e; cases e
        exact F₄.at1
      · have := F'.led b ob' (hs _ _ (hsub _ _ q))
        rw [e] at this; cases this
        exact F₄.led b ob (hs' _ _ (hs _ _ (hsub _ _ q)))
    · have e : i = n := by omega
      subst e
      refine W.done s _ _ hst fun h' tk hk => ?_
      have F' := F.swap.iterEnd (tk := tk) hwr hk
      obtain ⟨oc, hoc, F''⟩ := F'.outof (hs _ _ hkL) hnL F₃.new F₃.k₀L
      have sb : Sub k (k'.hide L) := fun b o e => (Heap.hide_ne _ (by rintro rfl; rw [F₃.kL] at e; cases e)).trans (hs _ _ (hsub _ _ e))
      cases use with
      | none => exact ⟨_, hoc _ F''.at0, fun h'' hs'' => done D n' ys _ s₁.heap.objs.size mc s hJ sb _ (F''.wreck (tk := tk) hs'')⟩
      | some u =>
        refine wpAny_mono (done D n' ys _ s₁.heap.objs.size mc _ hJ sb oc F'') (fun _ s' ⟨m', mu', k5, F5, hq⟩ => ?_) fun _ _ x => x.elim
        exact ⟨mc, hoc _ F5.at0, fun h'' hs'' => hq _ (F5.wreck (tk := s'.toks) hs'')⟩
  exact codeAny_compStart_list (loop _ rfl) (W.self 0 _ _ _ hst₃ (loop _ rfl))
end
section
variable {w : World} {R : Shared → Shared → Prop} {s₀ s s' : Shared} {L C : Addr} {m m' mc : Str → Option Value} {k₀ k k' : Heap} {mu mu' : List (Addr × Obj)} {A : Around} {E : Value → Shared → Prop} {env : Env}
def Elt (w : World) (R : Shared → Shared → Prop) (s₀ : Shared) (k₀ : Heap) (C : Addr) (k : Heap) (mu : List (Addr × Obj)) (P : Value → Prop) (y : Value) (s : Shared) : Prop :=
  ∃ k' mc, Sub k k' ∧ P y ∧ Fm w R s₀ k₀ C mc k' mu s
theorem elt_of {P : Value → Prop} {y : Value} (F : Fm w R s₀ k₀ C mc k' mu s) (hs : Sub k k') (h : P y) : Elt w R s₀ k₀ C k mu P y s := ⟨k', mc, hs, h, F⟩
theorem behind_assign {Q : Value → Shared → Prop} {y : Str} {py : Pos} {v : Value} (h : ∀ s', Fm w R s₀ k₀ L (up m y v) k mu s' → Q .none s') (hL : env.locals = L := by rfl) (hk : env.scope.kind = .function := by rfl) (hl : env.kindOf y = some .local := by rfl) :
    Behind w A (some (assign (.Name y py) env)) Q R s₀ k₀ L C mc m k mu v s := fun oc F => wpAny_assign_Name (x_store F (fun s' F' => ⟨_, mu, k, F', h⟩) hL hk hl)
theorem behind_none {Q : Value → Shared → Prop} {v : Value} (h : ∀ s', Fm w R s₀ k₀ L m k mu s' → Q v s') : Behind w A none Q R s₀ k₀ L C mc m k mu v s := h
theorem Paired.take_snoc {F : Value → Value → Prop} {items : Array Value} {i : Nat} {v y : Value} {ys : List Value} (h : Paired F (items.toList.take i) ys) (hv : items[i]? = some v) (hy : F v y) : Paired F (items.toList.take (i + 1)) (ys ++ [y]) := by
  have h' : items.toList[i]? = some v := by simpa using hv
  rw [List.take_add_one, h', Option.toList_some]
  exact h.snoc hy
theorem comp_list {elt iter : Expr} {x : Str} {px : Pos} {scope : Scope} {cl : List (Str × Addr)} {pos : Pos} {use : Option (Value → Sem Unit)} {Q : Value → Shared → Prop} {l : Addr} {vs : List Value}
    (F : Fm w R s₀ k₀ L m k mu s) (hh : A.handled = none) (hl0 : k.IsList l vs.toArray) (hz : vs.length ≤ 10000) (G : Value → Value → Prop)
    (turn : ∀ v C mc k' mu' s, v ∈ vs → Sub k k' → mc x = some v → Fm w R s₀ k₀ C mc k' mu' s → wpAny (model Pr w) A (eval elt (compEnvC scope cl C env)) (Elt w R s₀ k₀ C k' mu' (G v)) (fun _ _ => False) s)
    (done : ∀ D n' ys k' C mc s, Paired G vs ys → Sub k k' → Behind w A use Q R s₀ k₀ L C mc m k' ((D, lst ys n') :: mu) (.ref D) s)
    (hcell : ∀ y ∈ scope.names, y.2 ≠ .cell := by decide) (hkind : scope.kind = .function := by rfl) (hx : scope.names.lookup x = some .local := by rfl) :
    CompV w A elt iter x px scope cl pos env use Q (.ref l) s := by
  have hls : s.heap.IsList l vs.toArray := hl0.at fun o e => F.led l o e
  have hne : l ≠ s.heap.objs.size := by obtain ⟨o, e, _⟩ := hls; exact Nat.ne_of_lt (Heap.lt_size e)
  unfold CompV
  refine wpAny_pyIter_list hls ?_
  refine comp_any (Walks.list hh s.heap.objs.size l hne vs.toArray) (F.push _) ⟨⟨_, Heap.get?_push_size _ rfl, rfl, rfl⟩, hls.at fun o e => Heap.get?_push_of_some _ e⟩ (fun b hb => List.mem_singleton.mp hb) (fun b hb => ?_) (fun i h st => let ⟨o, e, _⟩ := st.1; ⟨o, e⟩)
    (by simpa using hz) (fun i ys => Paired G (vs.toArray.toList.take i) ys) .nil (fun i v ys C mc k' mu' s hi hP hs hj hm F => ?_) (fun D n' ys k' C mc s hj hs => ?_) hcell hkind hx
  · rcases List.mem_cons.mp hb with q | q
    · exact .inl q
    · obtain ⟨o, e, _⟩ := hl0
      exact .inr ⟨o, by rw [List.mem_singleton.mp q]; exact e⟩
  · refine wpAny_mono (turn v C mc k' mu' s (List.mem_of_getElem? (by simpa using hP)) hs hm F) (fun y s₂ ⟨k'', mc', a, b, c⟩ => ⟨k'', mc', a, Paired.take_snoc hj hP b, c⟩) fun _ _ e => e
  · refine done D n' ys k' C mc s ?_ hs
    simpa using hj

theorem e_cell {x : Str} {pos : Pos} {v : Value} {c : Addr} {Q : Value → Shared → Prop} (hv : s.heap.IsCell c (some v)) (h : Q v s) (hc : env.cells.lookup x = some c := by rfl) (hl : env.kindOf x = some .cell := by rfl) (hk : env.scope.kind = .function := by rfl)
    (hd : (x == ("__debug__" : Str)) = false := by decide) : wpAny (model Pr w) A (eval (.Name x pos) env) Q E s := wpAny_Name (wpAny_loadName_cell hk hl hc hv h) hd
theorem x_cell {x : Str} {v : Value} {v₀ : Option Value} {c : Addr} {o : Obj} {Q : Unit → Shared → Prop} (F : Fm w R s₀ k₀ L m k ((c, o) :: mu) s) (ho : o.data = .cell v₀) (h : ∀ o' s', o'.data = .cell (some v) → Fm w R s₀ k₀ L m k ((c, o') :: mu) s' → Q () s')
    (hc : env.cells.lookup x = some c := by rfl) (hl : env.kindOf x = some .cell := by rfl) (hk : env.scope.kind = .function := by rfl) : wpAny (model Pr w) A (storeName env x v) Q E s :=
  wpAny_storeName_cell hk hl hc ⟨o, F.at0, ho⟩ fun h' ⟨o', e, d⟩ hs => h o' _ d (F.turn (tk := s.toks) hs e)
theorem cell_at {h : Heap} {c : Addr} {o : Obj} {v : Option Value} (e : h.get? c = some o) (d : o.data = .cell v) : h.IsCell c v := ⟨o, e, d⟩
theorem IsCell.mono {h h' : Heap} {c : Addr} {v : Option Value} (x : h.IsCell c v) (hs : Sub h h') : h'.IsCell c v := let ⟨o, e, d⟩ := x; ⟨o, hs _ _ e, d⟩
theorem Fm.adopt {b : Addr} {o : Obj} (F : Fm w R s₀ k₀ L m k mu s) (e : s.heap.get? b = some o) (h1 : b ≠ L) (h2 : s₀.heap.objs.size ≤ b) (h3 : k.get? b = none) (h4 : b ∉ mu.map (·.1)) : Fm w R s₀ k₀ L m k ((b, o) :: mu) s where
  hR := F.hR
  g₀ := F.g₀
  ns := F.ns
  rel := F.rel
  new := F.new
  led := F.led
  ext := F.ext
  fresh := F.fresh
  kL := F.kL
  kP := F.kP
  mt := fun p hp => by
    rcases List.mem_cons.mp hp with rfl | hp
    · exact ⟨e, h1, h3, h2⟩
    · exact F.mt p hp
  nd := by rw [List.map_cons, List.nodup_cons]; exact ⟨h4, F.nd⟩
theorem enter_c {f : Addr} {n : Nat} {fd : FuncData} {body : List Stmt} {oc : Value} {od : Option Addr} {osl : Array (Option Value)} {args : List Value} {binds : List (Str × Value)} {Q : Value → Shared → Prop} (hR : Rel w R) (C : Cx w k s) (a : Ar A (n + 1))
    (ho : (KK w).lookup f = some ⟨oc, od, .func fd, osl⟩) (hcd : codeIn (KK w) fd.code fd.qualname = true) (hbody : fd.body = .stmts body) (hbind : bindArgs fd ⟨args, []⟩ = pure binds) (hclo : fd.closure = [])
    (hkind : ∀ x ∈ binds, fd.scope.names.lookup x.1 = some .local ∨ (fd.scope.names.lookup x.1 = some .cell ∧ ((cellsFrom (s.heap.objs.size + 1) fd.scope.names []).lookup x.1).isSome = true))
    (h : ∀ A' L s₁, Ar A' n → Fm w R s k L (bindL (callEnvC fd L f).kindOf binds fun _ => none) k [] s₁ →
      (∀ x c, (callEnvC fd L f).cells.lookup x = some c → s₁.heap.IsCell c (bindC (callEnvC fd L f).kindOf binds (fun _ => none) x) ∧ L < c ∧ k.get? c = none) →
      wpAny (model Pr w) A' (execs body (callEnvC fd L f)) (Fin Q) (fun _ _ => False) s₁)
    (hco : fd.scope.isCoroutine = false := by rfl) (hgen : fd.scope.isGenerator = false := by rfl) (hk : fd.scope.kind = .function := by rfl) :
    wpAny (model Pr w) A (call (.ref f) args) Q (fun _ _ => False) s := by
  obtain ⟨mg, mb, T⟩ := C.g.T
  refine wpAny_call (codeAny_call_cells a.room (C.g.X _ _ ho) rfl T.nolimit (codeRec_of C.g.X hcd) hbody hbind hclo hkind (fun s₁ X => ?_) hco hgen hk)
  have kn : ∀ b, s.heap.objs.size ≤ b → k.get? b = none := fun b hb => by
    cases q : k.get? b with
    | none => rfl
    | some o => exact absurd (Heap.lt_size (C.sub _ _ q)) (Nat.not_lt.mpr hb)
  have F : Fm w R s k s.heap.objs.size (bindL (callEnvC fd s.heap.objs.size f).kindOf binds fun _ => none) k [] s₁ := by
    obtain ⟨h₁, tk, e, hk₁⟩ := X.done
    refine ⟨hR, C.g, X.toInCall.ns, hR.keeps ⟨h₁, tk, e, hk₁⟩, Nat.le_refl _, fun b o q => X.toInCall.keep b o (C.sub b o q), Sub.refl k, fun _ _ e => .inl e, kn _ (Nat.le_refl _), C.kP, fun p hp => (nomatch hp), List.nodup_nil⟩
  refine wpAny_mono (h _ _ _ a.deeper F fun x c hc => ?_) (fun _ _ x => x) fun _ _ x => x.elim
  have hl := X.above x c (mem_of_lookup hc)
  exact ⟨X.cell x c hc, hl, kn _ (Nat.le_of_lt hl)⟩
theorem Fm.cell {c : Addr} {v : Option Value} (F : Fm w R s₀ k₀ L m k [] s) (h : s.heap.IsCell c v ∧ L < c ∧ k.get? c = none) : ∃ o, o.data = .cell v ∧ Fm w R s₀ k₀ L m k [(c, o)] s :=
  let ⟨⟨o, e, d⟩, a, b⟩ := h; ⟨o, d, F.adopt e (Nat.ne_of_gt a) (Nat.le_trans F.new (Nat.le_of_lt a)) b (by simp)⟩
theorem Fm.cellK {c : Addr} {v : Option Value} (F : Fm w R s₀ k₀ L m k mu s) (hm : c ∉ mu.map (·.1)) (h : s.heap.IsCell c v ∧ L < c ∧ k.get? c = none) : ∃ k', Sub k k' ∧ k'.IsCell c v ∧ Fm w R s₀ k₀ L m k' mu s := by
  obtain ⟨⟨o, e, d⟩, a, b⟩ := h
  obtain ⟨k', h1, h2, F'⟩ := (F.adopt e (Nat.ne_of_gt a) (Nat.le_trans F.new (Nat.le_of_lt a)) b hm).freeze
  exact ⟨k', h1, ⟨o, h2, d⟩, F'⟩

abbrev IsD (w : World) (o : Obj) (kvs : List (Int × Value)) : Prop := o.IsDictOf (intKind Pr w) kvs
abbrev DictK (w : World) (k : Heap) (d : Addr) (kvs : List (Int × Value)) : Prop := k.DictOf (intKind Pr w) d kvs
theorem DictK.mono {h h' : Heap} {d : Addr} {kvs : List (Int × Value)} (x : DictK w h d kvs) (hs : Sub h h') : DictK w h' d kvs := Heap.DictOf.keep x hs
theorem IsD.at {h : Heap} {d : Addr} {o : Obj} {kvs : List (Int × Value)} (i : IsD w o kvs) (e : h.get? d = some o) : DictK w h d kvs := Heap.dictOf_iff.mpr ⟨o, e, i⟩
theorem Fm.nsm {p : Addr × Obj} (F : Fm w R s₀ k₀ L m k (p :: mu) s) : (p.1 == sysModules) = false := by
  have h1 := (F.mt _ (.head _)).2.2.2
  have h2 := F.g₀.pt_lt
  have : p.1 ≠ sysModules := fun e => by rw [e] at h1; exact absurd (Nat.lt_of_lt_of_le h2 h1) (by decide)
  simpa using this
theorem e_dict0 {pos : Pos} {Q : Value → Shared → Prop} (F : Fm w R s₀ k₀ L m k mu s) (h : ∀ d o s', IsD w o [] → Fm w R s₀ k₀ L m k ((d, o) :: mu) s' → Q (.ref d) s') : wpAny (model Pr w) A (eval (.Dict [] [] pos) env) Q E s := by
  rw [eval_Dict_empty]
  refine wpAny_bind (wpAny_standAt ?_)
  exact wpAny_newObj_type (h _ _ _ ⟨#[], 0, ⟨rfl, rfl, rfl⟩, rfl, fun _ he => by simp at he, Pairs.nil, List.nodup_nil⟩ (F.push { cls := .type "dict", data := .dict #[] }))
theorem o_setD {d : Addr} {o : Obj} {kvs : List (Int × Value)} {i : Int} {t : Tok} {v : Value} {Q : Unit → Shared → Prop} (F : Fm w R s₀ k₀ L m k ((d, o) :: mu) s) (hd : IsD w o kvs) (hz : kvs.length ≤ 10000)
    (h : ∀ o' s', IsD w o' (stored kvs i v) → Fm w R s₀ k₀ L m k ((d, o') :: mu) s' → Q () s') : wpAny (model Pr w) A (setItem (.ref d) (.int i t) v) Q E s := by
  refine wpAny_setItem_pairs (hsz := by rw [sizeLine_eq]; omega) (intKind_is Pr w i t) (hd.at F.at0) fun h' hd' hs' => ?_
  obtain ⟨o', e, q⟩ := Heap.dictOf_iff.mp hd'
  exact h o' _ q (F.turn (tk := s.toks + 1) hs' e)
theorem o_inD {d : Addr} {kvs : List (Int × Value)} {i : Int} {t : Tok} {Q : Value → Shared → Prop} (F : Fm w R s₀ k₀ L m k mu s) (hd : DictK w s.heap d kvs) (hs : (d == sysModules) = false) (h : ∀ s', Fm w R s₀ k₀ L m k mu s' → Q (.bool (valueAt kvs i).isSome) s') :
    wpAny (model Pr w) A (compareOp .In (.int i t) (.ref d)) Q E s := wpAny_in_of (intKind_is Pr w i t) hs hd.mapOf (h _ (F.tok _))
theorem o_getD {d : Addr} {kvs : List (Int × Value)} {i : Int} {t : Tok} {v : Value} {Q : Value → Shared → Prop} (F : Fm w R s₀ k₀ L m k mu s) (hd : DictK w s.heap d kvs) (hv : valueAt kvs i = some v) (h : ∀ s', Fm w R s₀ k₀ L m k mu s' → Q v s') :
    wpAny (model Pr w) A (getItem (.ref d) (.int i t)) Q E s := wpAny_getItem_of (intKind_is Pr w i t) hd.mapOf hv (h _ (F.tok _))
theorem o_subD {d : Addr} {kvs : List (Int × Value)} {i : Int} {t : Tok} {v : Value} {value slice : Expr} {Q : Value → Shared → Prop} (F : Fm w R s₀ k₀ L m k mu s) (hd : DictK w s.heap d kvs) (hv : valueAt kvs i = some v) (h : ∀ s', Fm w R s₀ k₀ L m k mu s' → Q v s')
    (hs : subscripted slice false (.ref d) (.int i t) = operate [.ref d, .int i t] (getItem (.ref d) (.int i t)) := by with_unfolding_all rfl) : wpAny (model Pr w) A (subscriptTail value slice (.ref d) (.int i t)) Q E s :=
  tail_any hd.typeIs slot_dict_getitem.lookup (o_getD F hd hv h) hs
theorem comp_keys {elt iter : Expr} {x : Str} {px : Pos} {scope : Scope} {cl : List (Str × Addr)} {pos : Pos} {use : Option (Value → Sem Unit)} {Q : Value → Shared → Prop} {d : Addr} {kvs : List (Int × Value)}
    (F : Fm w R s₀ k₀ L m k mu s) (hh : A.handled = none) (hd0 : DictK w k d kvs) (hsm : (d == sysModules) = false) (hz : kvs.length ≤ 10000) (J : Nat → List Value → Prop) (hJ : J 0 [])
    (turn : ∀ i key t v ys C mc k' mu' s, kvs[i]? = some (key, v) → J i ys → Sub k k' → mc x = some (.int key t) → Fm w R s₀ k₀ C mc k' mu' s → wpAny (model Pr w) A (eval elt (compEnvC scope cl C env)) (Elt w R s₀ k₀ C k' mu' (fun y => J (i + 1) (ys ++ [y]))) (fun _ _ => False) s)
    (done : ∀ D n' ys k' C mc s, J kvs.length ys → Sub k k' → Behind w A use Q R s₀ k₀ L C mc m k' ((D, lst ys n') :: mu) (.ref D) s)
    (hcell : ∀ y ∈ scope.names, y.2 ≠ .cell := by decide) (hkind : scope.kind = .function := by rfl) (hx : scope.names.lookup x = some .local := by rfl) :
    CompV w A elt iter x px scope cl pos env use Q (.ref d) s := by
  obtain ⟨ep, hda⟩ := (DictK.mono hd0 F.led).dictAt
  have hne : d ≠ s.heap.objs.size := Nat.ne_of_lt hda.lt_size
  unfold CompV
  refine wpAny_pyIter_dict hsm hda ?_
  refine comp_any (Walks.dictKeys hh s.heap.objs.size d hne kvs ep) (F.push _) ⟨⟨_, Heap.get?_push_size _ rfl, rfl, rfl⟩, hda.push _⟩ (fun b hb => List.mem_singleton.mp hb) (fun b hb => ?_) (fun i h st => let ⟨o, e, _⟩ := st.1; ⟨o, e⟩)
    hz J hJ (fun i v ys C mc k' mu' s hi hP hs hj hm F => ?_) done hcell hkind hx
  · rcases List.mem_cons.mp hb with q | q
    · exact .inl q
    · obtain ⟨o, _, _, e, _⟩ := hd0
      exact .inr ⟨o, by rw [List.mem_singleton.mp q]; exact e⟩
  · obtain ⟨key, y, hk, hi⟩ := hP
    obtain ⟨t, rfl⟩ := Value.isInt_shape (by simpa [intKind] using hi)
    exact turn i key t y ys C mc k' mu' s hk hj hs hm F
end
section
variable {w : World} {R : Shared → Shared → Prop} {s₀ s s' : Shared} {L C : Addr} {m m' mc : Str → Option Value} {k₀ k k' : Heap} {mu mu' : List (Addr × Obj)} {A : Around} {E : Value → Shared → Prop} {env : Env}
def SliceV (w : World) (A : Around) (value slice : Expr) (Q : Value → Shared → Prop) (E : Value → Shared → Prop) (o l u st : Value) (s : Shared) : Prop :=
  wpAny (model Pr w) A (subscriptTail value slice o (.ref s.heap.objs.size)) Q E { s with heap := s.heap.push { cls := .type "slice", data := .fields #[l, u, st] } }
theorem e_slice {lower upper step : Option Expr} {value : Expr} {p : Pos} {o : Value} {Q : Value → Shared → Prop}
    (h : wpAny (model Pr w) A (evalPart lower env) (fun l s₁ => wpAny (model Pr w) A (evalPart upper env) (fun u s₂ => wpAny (model Pr w) A (evalPart step env) (fun st s₃ => SliceV w A value (.Slice lower upper step p) Q E o l u st s₃) E s₂) E s₁) E s) :
    wpAny (model Pr w) A (eval (.Slice lower upper step p) env) (fun i s₂ => wpAny (model Pr w) A (subscriptTail value (.Slice lower upper step p) o i) Q E s₂) E s := wpAny_Slice h
theorem p_none {Q : Value → Shared → Prop} (h : Q .none s) : wpAny (model Pr w) A (evalPart none env) Q E s := wpAny_pure h
theorem p_some {e : Expr} {Q : Value → Shared → Prop} (h : wpAny (model Pr w) A (eval e env) Q E s) : wpAny (model Pr w) A (evalPart (some e) env) Q E s := h
theorem o_slice {l : Addr} {vs : List Value} {vl vu vk : Value} {lo hi st : Option Int} {value slice : Expr} {ops : List Value} {Q : Value → Shared → Prop} (F : Fm w R s₀ k₀ L m k mu s) (hl : s.heap.IsList l vs.toArray) (hz : vs.length ≤ 10000)
    (pl : IsPart vl lo) (pu : IsPart vu hi) (pk : IsPart vk st) (h0 : st ≠ some 0) (h : ∀ D s', Fm w R s₀ k₀ L m k ((D, lst (slicePick vs.toArray lo hi st).toList 0) :: mu) s' → Q (.ref D) s')
    (hs : subscripted slice false (.ref l) (.ref s.heap.objs.size) = operate ops (getItem (.ref l) (.ref s.heap.objs.size)) := by with_unfolding_all rfl) :
    SliceV w A value slice Q E (.ref l) vl vu vk s := by
  unfold SliceV
  refine tail_any (Heap.IsList.typeIs (s := { s with heap := s.heap.push { cls := .type "slice", data := .fields #[vl, vu, vk] } }) (hl.push _)) slot_list_getitem.lookup
    (wpAny_getItem_list_slice (hl.push _) (Heap.IsSliceOf.new ..) pl pu pk h0 ?_ (by rw [List.size_toArray, sizeLine_eq]; omega)) hs
  have F1 := (F.push { cls := .type "slice", data := .fields #[vl, vu, vk] }).push (lst (slicePick vs.toArray lo hi st).toList 0)
  have e : (slicePick vs.toArray lo hi st).toList.toArray = slicePick vs.toArray lo hi st := Array.toArray_toList
  have F2 := F1.drop1
  unfold lst at F2
  rw [e] at F2
  refine h _ _ ?_
  unfold lst
  rw [e]
  exact F2
theorem o_neg {a : Int} {t : Tok} {Q : Value → Shared → Prop} (F : Fm w R s₀ k₀ L m k mu s) (h : ∀ t s', Fm w R s₀ k₀ L m k mu s' → Q (.int (-a) t) s') : wpAny (model Pr w) A (unaryOp .USub (.int a t)) Q E s := neg_int (h _ _ (F.tok _))
theorem c_split {x y : Str} {t u : Tok} {Q : Value → Shared → Prop} (F : Fm w R s₀ k₀ L m k mu s) (hy : (y.length == 0) = false) (hz : x.length ≤ 10000)
    (h : ∀ D vs s', StrsAre vs (Txt.split x y) → Fm w R s₀ k₀ L m k ((D, lst vs 0) :: mu) s' → Q (.ref D) s') : wpAny (model Pr w) A (call (.builtin "str.split") [.str x t, .str y u]) Q E s := by
  obtain ⟨ot, hot, N⟩ := F.news
  refine splitN1 F.fr N hy (fun l h' tk e F' N' => h _ (strValues l) _ (e ▸ strsAre_of_values l) (F.more (tk := tk) hot F' N' ?_)) (by rw [sizeLine_eq]; omega)
  exact Nat.le_refl _
theorem c_join {x : Str} {t : Tok} {D : Addr} {vs : List Value} {ys : List Str} {Q : Value → Shared → Prop} (F : Fm w R s₀ k₀ L m k mu s) (hl : s.heap.IsList D vs.toArray) (hi : StrsAre vs ys) (hok : (ys.map (·.length)).sum + ys.length * x.length ≤ 16777216)
    (h : ∀ t s', Fm w R s₀ k₀ L m k mu s' → Q (.str (Txt.join x ys) t) s') : wpAny (model Pr w) A (call (.builtin "str.join") [.str x t, .ref D]) Q E s :=
  join_list hl (by simpa using hi) hok fun t' tk => h _ _ (F.tok _)
theorem c_lenS {x : Str} {t : Tok} {Q : Value → Shared → Prop} (F : Fm w R s₀ k₀ L m k mu s) (hz : x.length ≤ 10000) (h : ∀ t s', Fm w R s₀ k₀ L m k mu s' → Q (.int x.length t) s') : wpAny (model Pr w) A (call (.builtin "len") [.str x t]) Q E s :=
  P.len_str (by omega) (h _ _ (F.tok _))
theorem gm_L {l : Addr} {vs : List Value} {name : Str} {id : String} {pl : Sem Bool} {Q : Value × List Value → Shared → Prop} (slot : Slot "list" name id) (hty : typeOf (.builtin id) = pure (.type "method_descriptor")) {n : Nat} (hd : s.heap.get? l = some (lst vs n)) (h : Q (.builtin id, [.ref l]) s) :
    wpAny (model Pr w) A (getMethod (.ref l) name pl) Q E s := getMethod_builtin ⟨_, hd, rfl⟩ PySem.F.plainAttrs_list slot hty (fun a e => by cases e; exact ⟨_, hd, rfl⟩) h
theorem c_count {l : Addr} {vs : List Value} {ns : List Int} {i : Int} {t : Tok} {Q : Value → Shared → Prop} (F : Fm w R s₀ k₀ L m k mu s) (hl : s.heap.IsList l vs.toArray) (hi : IntsAre vs ns) (h : ∀ t s', Fm w R s₀ k₀ L m k mu s' → Q (.int (ns.count i : Nat) t) s') :
    wpAny (model Pr w) A (call (.builtin "list.count") [.ref l, .int i t]) Q E s := count_list_ints hl hi (h _ _ (F.tok _))
theorem c_sorted {l : Addr} {vs : List Value} {ns : List Int} {Q : Value → Shared → Prop} (F : Fm w R s₀ k₀ L m k mu s) (hl : s.heap.IsList l vs.toArray) (hi : IntsAre vs ns) (h64 : vs.length < 64)
    (h : ∀ D vs' ns' n s', IntsAre vs' ns' → ns'.Perm ns → ns'.Pairwise (· ≤ ·) → Fm w R s₀ k₀ L m k ((D, lst vs' n) :: mu) s' → Q (.ref D) s') : wpAny (model Pr w) A (call (.builtin "sorted") [.ref l]) Q E s := by
  obtain ⟨ot, hot, N⟩ := F.news
  exact sorted_N F.fr N hl hi h64 fun h' vs' ns' e F' N' a b c => h _ vs' ns' e _ a b c (F.more (tk := s.toks) hot F' N' (Nat.le_succ _))
theorem c_sum {l : Addr} {vs : List Value} {ns : List Int} {Q : Value → Shared → Prop} (F : Fm w R s₀ k₀ L m k mu s) (hh : A.handled = none) (hl : s.heap.IsList l vs.toArray) (hi : IntsAre vs ns) (h : ∀ t s', Fm w R s₀ k₀ L m k mu s' → Q (.int ns.sum t) s') :
    wpAny (model Pr w) A (call (.builtin "sum") [.ref l]) Q E s := by
  obtain ⟨ot, hot, N⟩ := F.news
  exact sumK hh F.fr N hl hi fun h' tk t' F' N' => h _ _ (F.same hot F' N')
theorem c_maxL {l : Addr} {vs : List Value} {ns : List Int} {Q : Value → Shared → Prop} (F : Fm w R s₀ k₀ L m k mu s) (hh : A.handled = none) (hl : s.heap.IsList l vs.toArray) (hi : IntsAre vs ns) (hne : 0 < ns.length)
    (h : ∀ M t s', M ∈ ns → (∀ a, a ∈ ns → a ≤ M) → Fm w R s₀ k₀ L m k mu s' → Q (.int M t) s') : wpAny (model Pr w) A (call (.builtin "max") [.ref l]) Q E s := by
  obtain ⟨ot, hot, N⟩ := F.news
  exact max_list_N hh F.fr N hl hi hne fun h' M t tk F' N' a b => h M t _ a b (F.same hot F' N')
theorem c_listD {d : Addr} {kvs : List (Int × Value)} {Q : Value → Shared → Prop} (F : Fm w R s₀ k₀ L m k mu s) (hh : A.handled = none) (hd : DictK w s.heap d kvs) (hs : (d == sysModules) = false) (hz : kvs.length ≤ 10000)
    (h : ∀ D vs n s', IntsAre vs (kvs.map (·.1)) → Fm w R s₀ k₀ L m k ((D, lst vs n) :: mu) s' → Q (.ref D) s') : wpAny (model Pr w) A (call (.type "list") [.ref d]) Q E s := by
  obtain ⟨ep, hda⟩ := hd.dictAt
  refine kdl_call (kdl_dict (knd := intKind Pr w) (kvs := kvs) (ep := ep) hs) hh hda (by rw [sizeLine_eq]; omega) fun h' tk acc' c' hk hD hacc => ?_
  have F1 : Fm w R s₀ k₀ L m k mu { s with heap := h', toks := tk } := F.grow hk
  have hsz : s.heap.objs.size ∉ mu.map (·.1) := fun q => by
    obtain ⟨p, hp, e⟩ := List.mem_map.mp q
    exact absurd (Heap.lt_size (F.mt p hp).1) (e ▸ Nat.lt_irrefl _)
  have hk : k.get? s.heap.objs.size = none := by
    cases q : k.get? s.heap.objs.size with
    | none => rfl
    | some o => exact absurd (Heap.lt_size (F.led _ _ q)) (Nat.lt_irrefl _)
  refine h _ acc'.toList c' _ ?_ (F1.adopt (by rw [hD]) (Nat.ne_of_gt F.L_lt) F.size_le hk hsz)
  have key : ∀ (l : List Value) (q : List (Int × Value)), l.length = q.length → (∀ (j : Nat) (v : Value), l[j]? = some v → ∃ k x, q[j]? = some (k, x) ∧ (intKind Pr w).is k v = true) → IntsAre l (q.map (·.1)) := by
    intro l
    induction l with
    | nil => intro q hq _; cases q with
      | nil => exact .nil
      | cons _ _ => cases hq
    | cons v l ih =>
      intro q hq hj
      cases q with
      | nil => cases hq
      | cons p q =>
        obtain ⟨k, x, e, hi⟩ := hj 0 v rfl
        simp only [List.getElem?_cons_zero, Option.some.injEq] at e
        subst e
        obtain ⟨t, rfl⟩ := Value.isInt_shape (by simpa [intKind] using hi)
        exact .cons _ _ (ih q (by simpa using hq) fun j v hv => hj (j + 1) v hv)
  exact key _ _ (by rw [Array.length_toList]; exact hacc.1) fun j v e => hacc.2 j v (by rw [← Array.getElem?_toList]; exact e)
theorem o_notinL {l : Addr} {vs : List Value} {ns : List Int} {i : Int} {t : Tok} {Q : Value → Shared → Prop} (hl : s.heap.IsList l vs.toArray) (hi : IntsAre vs ns) (h : Q (.bool (!decide (i ∈ ns))) s) : wpAny (model Pr w) A (compareOp .NotIn (.int i t) (.ref l)) Q E s := by
  have key : ∀ {vs : List Value} {ns : List Int}, IntsAre vs ns → vs.any (fun v => match v with | .int j _ => j == i | _ => false) = decide (i ∈ ns) := by
    intro vs ns h
    induction h with
    | nil => simp
    | cons j u _ ih =>
      rw [List.any_cons, ih]
      by_cases q : j = i
      · subst q; simp
      · have q' : ¬ i = j := fun e => q e.symm
        simp [q, q']
  have at_ : ∀ {vs : List Value} {ns : List Int}, IntsAre vs ns → ∀ v ∈ vs, ∃ j u, v = .int j u := by
    intro vs ns h
    induction h with
    | nil => intro v hv; cases hv
    | cons j u _ ih =>
      intro v hv
      rcases List.mem_cons.mp hv with rfl | hv
      · exact ⟨j, u, rfl⟩
      · exact ih v hv
  refine SeqAt.notIn_listAt (fun v => match v with | .int j _ => j == i | _ => false) hl (fun v hv => ?_) ?_
  · obtain ⟨j, u, rfl⟩ := at_ hi v (by simpa using hv)
    exact SeqAt.EqAt.int_int j u i t
  · rw [List.any_toArray, key hi]; exact h
end
section
variable {w : World} {R : Shared → Shared → Prop} {s₀ s s' : Shared} {L C : Addr} {m m' mc : Str → Option Value} {k₀ k k' : Heap} {mu mu' : List (Addr × Obj)} {A : Around} {E : Value → Shared → Prop} {env : Env}
theorem gm_D {d : Addr} {kvs : List (Int × Value)} {name : Str} {id : String} {pl : Sem Bool} {Q : Value × List Value → Shared → Prop} (slot : Slot "dict" name id) (ty : typeOf (.builtin id) = pure (.type "method_descriptor")) (hd : DictK w s.heap d kvs) (h : Q (.builtin id, [.ref d]) s) :
    wpAny (model Pr w) A (getMethod (.ref d) name pl) Q E s := getMethod_builtin hd.typeIs PySem.F.plainAttrs_dict slot ty hd.mapOf.noDict h
theorem c_items {d : Addr} {kvs : List (Int × Value)} {Q : Value → Shared → Prop} (F : Fm w R s₀ k₀ L m k mu s) (hd : DictK w s.heap d kvs) (hs : (d == sysModules) = false) (h : ∀ v s', Fm w R s₀ k₀ L m k ((v, { cls := .type "dict_items", data := .fields #[.ref d] }) :: mu) s' → Q (.ref v) s') :
    wpAny (model Pr w) A (call (.builtin "dict.items") [.ref d]) Q E s :=
  call_meetsIn PySem.F.slot_dict_items hd.typeIs PySem.F.entry_dict_items (PySem.F.args_dict_items_1 _) (meets_dict_items (intKind Pr w) d hs) ⟨⟨kvs, hd⟩, h _ _ (F.push _)⟩
theorem c_values {d : Addr} {kvs : List (Int × Value)} {Q : Value → Shared → Prop} (F : Fm w R s₀ k₀ L m k mu s) (hd : DictK w s.heap d kvs) (hs : (d == sysModules) = false) (h : ∀ v s', Fm w R s₀ k₀ L m k ((v, { cls := .type "dict_values", data := .fields #[.ref d] }) :: mu) s' → Q (.ref v) s') :
    wpAny (model Pr w) A (call (.builtin "dict.values") [.ref d]) Q E s :=
  call_meetsIn PySem.F.slot_dict_values hd.typeIs PySem.F.entry_dict_values (PySem.F.args_dict_values_1 _) (meets_dict_values (intKind Pr w) d hs) ⟨⟨kvs, hd⟩, h _ _ (F.push _)⟩
theorem loop_values {x : Str} {px : Pos} {body : List Stmt} {Q : Flow → Shared → Prop} {v d : Addr} {kvs : List (Int × Value)} (F : Fm w R s₀ k₀ L m k ((v, { cls := .type "dict_values", data := .fields #[.ref d] }) :: mu) s) (hh : A.handled = none) (hd0 : DictK w k d kvs)
    (J : Nat → (Str → Option Value) → Heap → List (Addr × Obj) → Prop) (hJ : J 0 m k mu)
    (turn : ∀ i key y I o' m k' mu' s, kvs[i]? = some (key, y) → Sub k k' → J i m k' mu' → Fm w R s₀ k₀ L (up m x y) k' (mu' ++ [(I, o')]) s →
        wpAny (model Pr w) A (execs body env) (Turn w R s₀ k₀ L k (I, o') (J (i + 1)) Q) (fun _ _ => False) s)
    (done : ∀ m k' mu' s, J kvs.length m k' mu' → Sub k k' → Fm w R s₀ k₀ L m k' mu' s → Q .next s)
    (hL : env.locals = L := by rfl) (hk : env.scope.kind = .function := by rfl) (hl : env.kindOf x = some .local := by rfl) :
    LoopV w A (.Name x px) body env Q (.ref v) s := by
  obtain ⟨ep, hda⟩ := (DictK.mono hd0 F.led).dictAt
  have hne : d ≠ s.heap.objs.size := Nat.ne_of_lt hda.lt_size
  unfold LoopV
  refine wpAny_pyIter_values ⟨_, F.at0, rfl, rfl⟩ hda ?_
  refine for_any (Walks.dictValues hh s.heap.objs.size d hne kvs ep) (F.drop.push _) ⟨⟨_, Heap.get?_push_size _ rfl, rfl, rfl⟩, hda.push _⟩ (fun b hb => List.mem_singleton.mp hb) (fun b hb => ?_) (fun i h st => let ⟨o, e, _⟩ := st.1; ⟨o, e⟩) J hJ (fun i y o' m k' mu' s hi hP hs hj F => ?_) done
  · rcases List.mem_cons.mp hb with q | q
    · exact .inl q
    · obtain ⟨o, _, _, e, _⟩ := hd0
      exact .inr ⟨o, by rw [List.mem_singleton.mp q]; exact e⟩
  · obtain ⟨key, hP⟩ := hP
    exact wpAny_assign_Name (x_store F (fun s' F' => turn i key y _ o' m k' mu' s' hP hs hj F') hL hk hl)
abbrev iobj (d : Addr) (i n ep : Nat) (f0 ok ov : Value) : Obj := { cls := .type "dict_itemiterator", dict := none, data := .fields #[f0, .bool false, .ref d, .int i 0, .int n 0, .int ep 0, ok, ov], slots := #[] }
theorem loop_items {xk xv : Str} {pk pv pt : Pos} {x1 : Nat} {body : List Stmt} {Q : Flow → Shared → Prop} {v d : Addr} {kvs : List (Int × Value)} (F : Fm w R s₀ k₀ L m k ((v, { cls := .type "dict_items", data := .fields #[.ref d] }) :: mu) s) (hh : A.handled = none) (hd0 : DictK w k d kvs)
    (J : Nat → (Str → Option Value) → Heap → List (Addr × Obj) → Prop) (hJ : J 0 m k mu)
    (turn : ∀ i key t y I o' m k' mu' s, kvs[i]? = some (key, y) → Sub k k' → J i m k' mu' → Fm w R s₀ k₀ L (up (up m xk (.int key t)) xv y) k' (mu' ++ [(I, o')]) s →
        wpAny (model Pr w) A (execs body env) (Turn w R s₀ k₀ L k (I, o') (J (i + 1)) Q) (fun _ _ => False) s)
    (done : ∀ m k' mu' s, J kvs.length m k' mu' → Sub k k' → Fm w R s₀ k₀ L m k' mu' s → Q .next s)
    (hL : env.locals = L := by rfl) (hk : env.scope.kind = .function := by rfl) (hl : env.kindOf xk = some .local := by rfl) (hl' : env.kindOf xv = some .local := by rfl) :
    LoopV w A (.Tuple [.Name xk pk, .Name xv pv] x1 pt) body env Q (.ref v) s := by
  obtain ⟨ep, hdk⟩ := hd0.dictAt
  have dat : ∀ {h : Heap} {k' : Heap}, Sub k k' → Sub k' h → h.DictAt (intKind Pr w) d kvs ep := fun a b => hdk.keep (a.trans b)
  unfold LoopV
  refine wpAny_pyIter_items (knd := intKind Pr w) ⟨_, F.at0, rfl, rfl⟩ (dat (Sub.refl k) F.led) ?_
  have F0 := F.drop.push (iobj d 0 kvs.length ep .none .none .none)
  refine codeAny_forLoop_any (fun c s' => ∃ i m k' mu' ok ov, c = kvs.length + 1 - i ∧ i ≤ kvs.length ∧ J i m k' mu' ∧ Sub k k' ∧ Fm w R s₀ k₀ L m k' (mu' ++ [(s.heap.objs.size, iobj d i kvs.length ep .none ok ov)]) s') ?_ (kvs.length + 1)
    ⟨0, m, k, mu, .none, .none, rfl, Nat.zero_le _, hJ, Sub.refl k, F0.rot⟩
  rintro c s1 ⟨i, m, k', mu', ok, ov, rfl, hi, hJ, hs, F⟩
  have F := F.unrot
  cases hv : kvs[i]? with
  | none =>
    have hsz : i = kvs.length := Nat.le_antisymm hi (by simpa using hv)
    refine wpAny_pyNext_items_end (knd := intKind Pr w) hh F.at0 (dat hs F.led) hv fun h₁ he₁ => wpAny_execs_nil ?_
    refine done m k' mu' _ (hsz ▸ hJ) hs (F.iterEnd (wr := [s.heap.objs.size]) (tk := s1.toks) (fun b hb => List.mem_singleton.mp hb) fun b o hb e => he₁ b o (fun q => hb (by simp [q])) e)
  | some kv =>
    obtain ⟨key, y⟩ := kv
    have hlt : i < kvs.length := (List.getElem?_eq_some_iff.mp hv).1
    refine wpAny_pyNext_items_item (knd := intKind Pr w) F.at0 (dat hs F.led) hv fun kv h₁ hkey hout htup hsz hk₁ => ?_
    obtain ⟨t, rfl⟩ := Value.isInt_shape (by simpa [intKind] using hkey)
    have F1 : Fm w R s₀ k₀ L m k' ((s.heap.objs.size, iobj d (i + 1) kvs.length ep (rawInt s1.heap.objs.size) (.int key t) y) :: mu') { s1 with heap := h₁ } :=
      F.iter (wr := [s.heap.objs.size]) (tk := s1.toks) (fun b hb => List.mem_singleton.mp hb) (fun b o hb e => hk₁ b o (fun q => hb (by simp [q])) e) hout
    refine wpAny_letOwnedTupleGo_items hout fun h₂ hit₂ hs₂ => ?_
    have F2 : Fm w R s₀ k₀ L m k' ((s.heap.objs.size, iobj d (i + 1) kvs.length ep .none (.int key t) y) :: mu') { s1 with heap := h₂ } := F1.turn (tk := s1.toks) hs₂ hit₂
    have hT : IsTup h₂ s1.heap.objs.size [.int key t, y].toArray := ⟨_, (hs₂.2 _ (Nat.ne_of_gt (Heap.lt_size F.at0))).trans htup, rfl, _, rfl⟩
    refine x_unpack F2 hT hh rfl rfl fun s3 F3 => ?_
    refine io_cons (a_name (x_store F3 (fun s4 F4 => ?_) hL hk hl))
    refine io_cons (a_name (x_store F4 (fun s5 F5 => ?_) hL hk hl'))
    refine io_nil ?_
    refine wpAny_mono (turn i key t y _ _ m k' mu' _ hv hs hJ F5.rot) (fun f s6 h6 => ?_) fun _ _ x => x.elim
    have fin : (∃ m' k'' mu'', J (i + 1) m' k'' mu'' ∧ Sub k k'' ∧ Fm w R s₀ k₀ L m' k'' (mu'' ++ [(s.heap.objs.size, iobj d (i + 1) kvs.length ep .none (.int key t) y)]) s6) →
        ∃ c, c < kvs.length + 1 - i ∧ ∃ i m k' mu' ok ov, c = kvs.length + 1 - i ∧ i ≤ kvs.length ∧ J i m k' mu' ∧ Sub k k' ∧ Fm w R s₀ k₀ L m k' (mu' ++ [(s.heap.objs.size, iobj d i kvs.length ep .none ok ov)]) s6 := by
      rintro ⟨m', k'', mu'', hj, hs'', F''⟩
      exact ⟨kvs.length + 1 - (i + 1), by omega, i + 1, m', k'', mu'', _, _, rfl, hlt, hj, hs'', F''⟩
    cases f with
    | next => exact fin h6
    | cont => exact fin h6
    | brk => exact h6
    | ret v => exact h6
theorem sub_int_tuple : isSubtype (.type "int") (.type "tuple") = pure false := by rw [isSubtype_type]; kernel_rfl
theorem c_isiT {a : Addr} {vs : Array Value} {Q : Value → Shared → Prop} (ht : IsTup s.heap a vs) (h : Q (.bool true) s) : wpAny (model Pr w) A (call (.builtin "isinstance") [.ref a, .type "tuple"]) Q E s :=
  let ⟨o, e, c, _⟩ := ht; call_isinstance (isinstance_true (Tx := "tuple") PySem.F.isi_meta_tuple PySem.F.isi_sub_tuple) ⟨⟨o, e, c⟩, h⟩
theorem c_isiI {i : Int} {t : Tok} {Q : Value → Shared → Prop} (F : Fm w R s₀ k₀ L m k mu s) (h : ∀ s', Fm w R s₀ k₀ L m k mu s' → Q (.bool false) s') : wpAny (model Pr w) A (call (.builtin "isinstance") [.int i t, .type "tuple"]) Q E s :=
  call_isinstance (isinstance_false_int (by decide) PySem.F.isi_meta_tuple sub_int_tuple) (h _ (F.tok _))
theorem xs_aug {o i : Expr} {pos' : Pos} {op : Operator} {value : Expr} {pos : Pos} {rest : List Stmt} {Q : Flow → Shared → Prop}
    (h : wpAny (model Pr w) A (eval o env) (fun ov s₁ => wpAny (model Pr w) A (eval i env) (fun iv s₂ => wpAny (model Pr w) A (getItem ov iv) (fun old s₃ =>
      wpAny (model Pr w) A (eval value env) (fun v s₄ => wpAny (model Pr w) A (inplaceOp op old v) (fun new s₅ =>
        wpAny (model Pr w) A (setItem ov iv new) (fun _ s₆ => wpAny (model Pr w) A (execs rest env) Q E s₆) E s₅) E s₄) E s₃) E s₂) E s₁) E s)
    (ha : ∀ ov iv new, augStore i ov iv new = (do holding [new, ov, iv] (setItem ov iv new); release [new, ov, iv] []; pure .next) := by intro _ _ _; rfl) :
    wpAny (model Pr w) A (execs (.AugAssign (.Subscript o i pos') op value pos :: rest) env) Q E s := wpAny_execs_cons (wpAny_AugAssign_Subscript_any h ha)
theorem xs_augN {x : Str} {v : Value} {pos' : Pos} {op : Operator} {value : Expr} {pos : Pos} {rest : List Stmt} {Q : Flow → Shared → Prop} (F : Fm w R s₀ k₀ L m k mu s) (hv : m x = some v)
    (h : wpAny (model Pr w) A (eval value env) (fun v' s₂ => wpAny (model Pr w) A (inplaceOp op v v') (fun r s₃ => wpAny (model Pr w) A (storeName env x r) (fun _ s₄ => wpAny (model Pr w) A (execs rest env) Q E s₄) E s₃) E s₂) E s)
    (hL : env.locals = L := by rfl) (hk : env.scope.kind = .function := by rfl) (hl : env.kindOf x = some .local := by rfl) : wpAny (model Pr w) A (execs (.AugAssign (.Name x pos') op value pos :: rest) env) Q E s := by
  subst hL
  exact wpAny_execs_cons (wpAny_AugAssign_Name (wpAny_loadName_local hk hl F.ns hv h))
theorem o_iadd {a b : Int} {t u : Tok} {Q : Value → Shared → Prop} (F : Fm w R s₀ k₀ L m k mu s) (h : ∀ t s', Fm w R s₀ k₀ L m k mu s' → Q (.int (a + b) t) s') : wpAny (model Pr w) A (inplaceOp .Add (.int a t) (.int b u)) Q E s := wpAny_iadd_int (h _ _ (F.tok _))
end
abbrev tit (t : Addr) (i : Nat) : Obj := { cls := .type "tuple_iterator", dict := none, data := .fields #[.ref t, .int i 0], slots := #[] }
section
variable {prog : Program} {w : World} {A : Around} {E : Value → Shared → Prop} {s : Shared}
theorem next_some {it t : Addr} {i : Nat} {xs : Array Value} {x : Value} {Q : Value → Shared → Prop} (hi : s.heap.get? it = some (tit t i)) (ht : IsTup s.heap t xs) (hx : xs[i]? = some x)
    (h : ∀ h', h'.get? it = some (tit t (i + 1)) → Heap.SameBut it s.heap h' → Q x { s with heap := h' }) : wpAny (model prog w) A (Builtin.SmallTypes.nextOf (.ref it)) Q E s := by
  obtain ⟨ot, hot, _, nt, hdt⟩ := ht
  unfold Builtin.SmallTypes.nextOf
  refine wpAny_bind (wpAny_callSpecial?_slot (name := Str.ofString "__next__") ⟨_, hi, rfl⟩ PySem.F.slot_tuple_iterator_next (wpAny_call_entry PySem.F.slot_tuple_iterator_next ⟨_, hi, rfl⟩ PySem.F.entry_tuple_iterator_next ?_ (PySem.F.args_tuple_iterator_next_1 _)))
  show wpAny _ _ (field (.ref it) 0 >>= _) _ _ s
  refine wpAny_bind (wpAny_field hi rfl (x := .ref t) rfl ?_)
  show wpAny _ _ (if (Value.ref t == Value.none) = true then _ else _) _ _ s
  rw [if_neg (show ¬ ((Value.ref t == Value.none) = true) from Bool.false_ne_true)]
  show wpAny _ _ (field (.ref it) 1 >>= _) _ _ s
  refine wpAny_bind (wpAny_field hi rfl (x := .int i 0) rfl ?_)
  show wpAny _ _ (seqItems? (.ref t) >>= _) _ _ s
  refine wpAny_bind (wpAny_seqItems hot hdt ?_)
  simp only [Int.toNat_natCast, hx]
  refine wpAny_bind (wpAny_setField_rec hi (by simp) fun h' he hs => wpAny_pure ⟨x, rfl, wpAny_pure (h h' ?_ hs)⟩)
  show h'.get? it = some { cls := .type "tuple_iterator", dict := none, data := .fields #[.ref t, .int ((i + 1 : Nat) : Int) 0], slots := #[] }
  simpa [rawInt] using he
theorem next_none {it t : Addr} {i : Nat} {xs : Array Value} {Q : Value → Shared → Prop} (hh : A.handled = none) (hi : s.heap.get? it = some (tit t i)) (ht : IsTup s.heap t xs) (hx : xs[i]? = none)
    (h : ∀ h' e o, Heap.ExtBut it s.heap h' → h'.get? e = some o → o.cls = .type "StopIteration" → E (.ref e) { s with heap := h' }) : wpAny (model prog w) A (Builtin.SmallTypes.nextOf (.ref it)) Q E s := by
  obtain ⟨ot, hot, _, nt, hdt⟩ := ht
  unfold Builtin.SmallTypes.nextOf
  refine wpAny_bind (wpAny_callSpecial?_slot (name := Str.ofString "__next__") ⟨_, hi, rfl⟩ PySem.F.slot_tuple_iterator_next (wpAny_call_entry PySem.F.slot_tuple_iterator_next ⟨_, hi, rfl⟩ PySem.F.entry_tuple_iterator_next ?_ (PySem.F.args_tuple_iterator_next_1 _)))
  show wpAny _ _ (field (.ref it) 0 >>= _) _ _ s
  refine wpAny_bind (wpAny_field hi rfl (x := .ref t) rfl ?_)
  show wpAny _ _ (if (Value.ref t == Value.none) = true then _ else _) _ _ s
  rw [if_neg (show ¬ ((Value.ref t == Value.none) = true) from Bool.false_ne_true)]
  show wpAny _ _ (field (.ref it) 1 >>= _) _ _ s
  refine wpAny_bind (wpAny_field hi rfl (x := .int i 0) rfl ?_)
  show wpAny _ _ (seqItems? (.ref t) >>= _) _ _ s
  refine wpAny_bind (wpAny_seqItems hot hdt ?_)
  simp only [Int.toNat_natCast, hx]
  refine wpAny_bind (wpAny_rule (wpAny_bind (wpAny_setField_rec hi (by simp) fun h' he hs => ?_)))
  show wpAny _ _ (newExc (.type "StopIteration") [] >>= _) _ _ _
  refine wpAny_bind ?_
  simp only [newExc, newTuple]
  refine wpAny_bind (wpAny_newObj_type ?_ (by size_fits))
  refine wpAny_bind (m := firstArgMember _ _) (wpAny_of_eq (a := Value.none) (by first | rfl | (simp only [firstArgMember]; rfl)) ?_)
  refine wpAny_newObj_type ?_ (by size_fits)
  simp only [raiseNew]
  refine wpAny_bind (wpAny_handled ?_)
  first | rw [show A.in1.handled = none from hh] | rw [hh]
  refine wpAny_bind (wpAny_pure (wpAny_throw ?_))
  exact h _ _ _ ((hs.extBut.push _).push _) (Heap.get?_push_size _ rfl) rfl
end
structure ZipS (z TI TO i1 i2 t1 t2 : Addr) (xs ys : Array Value) (f0 : Value) (i : Nat) (h : Heap) : Prop where
  z : IsZip h z TI TO f0
  ti : IsPair h TI (.ref i1) (.ref i2)
  to : ∃ a b, IsPair h TO a b
  a : h.get? i1 = some (tit t1 i)
  b : h.get? i2 = some (tit t2 i)
  x : IsTup h t1 xs
  y : IsTup h t2 ys
section
variable {prog : Program} {w : World} {A : Around} {E : Value → Shared → Prop} {s : Shared} {z TI TO i1 i2 t1 t2 : Addr} {xs ys : Array Value} {i : Nat}
theorem tup_ext {h h' : Heap} {a b : Addr} {xs : Array Value} (x : IsTup h a xs) (hs : Heap.ExtBut b h h') (hab : a ≠ b) : IsTup h' a xs := let ⟨o, e, r⟩ := x; ⟨o, hs a o hab e, r⟩
theorem zip_some {x y : Value} {Q : Option Value → Shared → Prop} (D : ZipApart z TI TO i1 i2 t1 t2) (S : ZipS z TI TO i1 i2 t1 t2 xs ys .none i s.heap) (hx : xs[i]? = some x) (hy : ys[i]? = some y)
    (hQ : ∀ h', IsZip h' z TI TO (rawInt s.heap.objs.size) → (∃ a b, IsPair h' TO a b) → h'.get? i1 = some (tit t1 (i + 1)) → h'.get? i2 = some (tit t2 (i + 1)) → IsPair h' s.heap.objs.size x y →
      (∀ c o, c ≠ z → c ≠ TO → c ≠ i1 → c ≠ i2 → s.heap.get? c = some o → h'.get? c = some o) → Q (some (.ref s.heap.objs.size)) { s with heap := h' }) :
    wpAny (model prog w) A (pyNext (.ref z)) Q E s := by
  obtain ⟨hz, hTI, ⟨a, b, hTO⟩, h1, h2, hl1, hl2⟩ := S
  unfold pyNext
  refine wpAny_bind (wpAny_attempt (wpAny_callSpecial?_slot (name := Str.ofString "__next__") ⟨_, hz, rfl⟩ PySem.F.slot_zip_next (wpAny_call_entry PySem.F.slot_zip_next ⟨_, hz, rfl⟩ PySem.F.entry_zip_next ?_ (PySem.F.args_zip_next_1 _))))
  show wpAny _ _ (field (.ref z) 2 >>= _) _ _ _
  refine wpAny_bind (wpAny_field hz rfl (x := .bool false) rfl ?_)
  show wpAny _ _ (field (.ref z) 3 >>= _) _ _ _
  refine wpAny_bind (wpAny_field hz rfl (x := .ref TI) rfl (wpAny_bind (wpAny_seqItems hTI rfl ?_)))
  show wpAny _ _ (Builtin.SmallTypes.ownedTupleIsFree (.ref z) >>= _) _ _ _
  refine wpAny_bind ?_
  unfold Builtin.SmallTypes.ownedTupleIsFree
  refine wpAny_bind (wpAny_field hz rfl (x := .none) rfl (wpAny_pure ?_))
  simp only [if_true]
  refine wpAny_bind (wpAny_rule (wpAny_bind (wpAny_field hz rfl (x := .ref TO) rfl (wpAny_bind (wpAny_setField_rec hz (by simp) fun h₁ hz₁ hs₁ => ?_)))))
  replace hz₁ : IsZip h₁ z TI TO .ellipsis := hz₁
  refine wpAny_bind ?_
  simp only [List.zipIdx_cons, List.zipIdx_nil, List.forIn_cons, List.forIn_nil]
  refine wpAny_bind (wpAny_bind (wpAny_onRaise ?_))
  show wpAny _ _ (Builtin.SmallTypes.nextOf (.ref i1) >>= _) _ _ _
  refine wpAny_bind (next_some ((hs₁.2 _ D.i1z).trans h1) (tup_ext hl1 hs₁.extBut D.l1z) hx fun h₂ h1₂ hs₂ => wpAny_pure ?_)
  have hTO₂ : IsPair h₂ TO a b := (hs₂.2 _ D.TOi1).trans ((hs₁.2 _ D.TOz).trans hTO)
  refine wpAny_bind (wpAny_seqItems hTO₂ rfl (wpAny_bind (wpAny_updateSeq_pair hTO₂ fun h₃ hTO₃ hs₃ => wpAny_bind (wpAny_letGo (wpAny_pure ?_)))))
  replace hTO₃ : IsPair h₃ TO x b := hTO₃
  refine wpAny_bind (wpAny_bind (wpAny_onRaise ?_))
  show wpAny _ _ (Builtin.SmallTypes.nextOf (.ref i2) >>= _) _ _ _
  refine wpAny_bind (next_some ((hs₃.2 _ D.TOi2.symm).trans ((hs₂.2 _ D.i12.symm).trans ((hs₁.2 _ D.i2z).trans h2))) (tup_ext (tup_ext (tup_ext hl2 hs₁.extBut D.l2z) hs₂.extBut D.l2i1) hs₃.extBut D.l2TO) hy fun h₄ h2₄ hs₄ => wpAny_pure ?_)
  have hTO₄ : IsPair h₄ TO x b := (hs₄.2 _ D.TOi2).trans hTO₃
  refine wpAny_bind (wpAny_seqItems hTO₄ rfl (wpAny_bind (wpAny_updateSeq_pair hTO₄ fun h₅ hTO₅ hs₅ => wpAny_bind (wpAny_letGo (wpAny_pure (wpAny_pure ?_))))))
  replace hTO₅ : IsPair h₅ TO x y := hTO₅
  refine wpAny_bind (wpAny_seqItems hTO₅ rfl (wpAny_bind (wpAny_newTuple ?_)))
  have hsz : h₅.objs.size = s.heap.objs.size := by rw [hs₅.1, hs₄.1, hs₃.1, hs₂.1, hs₁.1]
  have keep : ∀ c, c ≠ z → c ≠ TO → c ≠ i1 → c ≠ i2 → h₅.get? c = s.heap.get? c := fun c a b d e => by rw [hs₅.2 c b, hs₄.2 c e, hs₃.2 c b, hs₂.2 c d, hs₁.2 c a]
  have hz₅ : IsZip h₅ z TI TO .ellipsis := (hs₅.2 _ D.TOz.symm).trans ((hs₄.2 _ D.i2z.symm).trans ((hs₃.2 _ D.TOz.symm).trans ((hs₂.2 _ D.i1z.symm).trans hz₁)))
  have h1₅ : h₅.get? i1 = some (tit t1 (i + 1)) := (hs₅.2 _ D.TOi1.symm).trans ((hs₄.2 _ D.i12).trans ((hs₃.2 _ D.TOi1.symm).trans h1₂))
  have h2₅ : h₅.get? i2 = some (tit t2 (i + 1)) := (hs₅.2 _ D.TOi2.symm).trans h2₄
  show wpAny _ _ (Builtin.SmallTypes.ownedTupleHandOut (.ref z) (.ref h₅.objs.size) >>= _) _ _ _
  refine wpAny_bind ?_
  unfold Builtin.SmallTypes.ownedTupleHandOut
  have hz₆ : IsZip (h₅.push { cls := .type "tuple", data := .seq #[x, y] }) z TI TO .ellipsis := Heap.get?_push_of_some _ hz₅
  refine wpAny_bind (wpAny_setField_rec hz₆ (by simp) fun h₇ hz₇ hs₇ => ?_)
  replace hz₇ : IsZip h₇ z TI TO (rawInt h₅.objs.size) := hz₇
  refine wpAny_setField_rec hz₇ (by simp) fun h₈ hz₈ hs₈ => ?_
  replace hz₈ : IsZip h₈ z TI TO (rawInt h₅.objs.size) := hz₈
  have up : ∀ c o, c ≠ z → h₅.get? c = some o → h₈.get? c = some o := fun c o a e => (hs₈.2 c a).trans ((hs₇.2 c a).trans (Heap.get?_push_of_some _ e))
  have hnew : IsPair h₈ h₅.objs.size x y := (hs₈.2 _ (Nat.ne_of_gt (Heap.lt_size hz₅))).trans ((hs₇.2 _ (Nat.ne_of_gt (Heap.lt_size hz₅))).trans (Heap.get?_push_size _ rfl))
  rw [hsz] at hz₈ hnew
  refine wpAny_pure ⟨_, rfl, wpAny_pure ?_⟩
  rw [hsz]
  exact hQ h₈ hz₈ ⟨x, y, up _ _ D.TOz hTO₅⟩ (up _ _ D.i1z h1₅) (up _ _ D.i2z h2₅) hnew fun c o a b d e q => up c o a ((keep c a b d e).trans q)
theorem zip_none {Q : Option Value → Shared → Prop} (hh : A.handled = none) (D : ZipApart z TI TO i1 i2 t1 t2) (S : ZipS z TI TO i1 i2 t1 t2 xs ys .none i s.heap) (hx : xs[i]? = none)
    (hQ : ∀ h', (∀ c o, c ≠ z → c ≠ TO → c ≠ i1 → c ≠ i2 → s.heap.get? c = some o → h'.get? c = some o) → Q none { s with heap := h' }) : wpAny (model prog w) A (pyNext (.ref z)) Q E s := by
  obtain ⟨hz, hTI, ⟨a, b, hTO⟩, h1, h2, hl1, hl2⟩ := S
  unfold pyNext
  refine wpAny_bind (wpAny_attempt (wpAny_callSpecial?_slot (name := Str.ofString "__next__") ⟨_, hz, rfl⟩ PySem.F.slot_zip_next (wpAny_call_entry PySem.F.slot_zip_next ⟨_, hz, rfl⟩ PySem.F.entry_zip_next ?_ (PySem.F.args_zip_next_1 _))))
  show wpAny _ _ (field (.ref z) 2 >>= _) _ _ _
  refine wpAny_bind (wpAny_field hz rfl (x := .bool false) rfl ?_)
  show wpAny _ _ (field (.ref z) 3 >>= _) _ _ _
  refine wpAny_bind (wpAny_field hz rfl (x := .ref TI) rfl (wpAny_bind (wpAny_seqItems hTI rfl ?_)))
  show wpAny _ _ (Builtin.SmallTypes.ownedTupleIsFree (.ref z) >>= _) _ _ _
  refine wpAny_bind ?_
  unfold Builtin.SmallTypes.ownedTupleIsFree
  refine wpAny_bind (wpAny_field hz rfl (x := .none) rfl (wpAny_pure ?_))
  simp only [if_true]
  refine wpAny_bind (wpAny_rule (wpAny_bind (wpAny_field hz rfl (x := .ref TO) rfl (wpAny_bind (wpAny_setField_rec hz (by simp) fun h₁ hz₁ hs₁ => ?_)))))
  replace hz₁ : IsZip h₁ z TI TO .ellipsis := hz₁
  refine wpAny_bind ?_
  simp only [List.zipIdx_cons, List.zipIdx_nil, List.forIn_cons, List.forIn_nil]
  refine wpAny_bind (wpAny_bind (wpAny_onRaise ?_))
  show wpAny _ _ (Builtin.SmallTypes.nextOf (.ref i1) >>= _) _ _ _
  refine wpAny_bind (next_none hh ((hs₁.2 _ D.i1z).trans h1) (tup_ext hl1 hs₁.extBut D.l1z) hx fun h₂ e oe hs₂ hoe hce => ?_)
  have hz₂ : IsZip h₂ z TI TO .ellipsis := hs₂ _ _ D.i1z.symm hz₁
  have hez : e ≠ z := fun x => by subst x; rw [hz₂] at hoe; cases hoe; simp at hce
  refine wpAny_setField_rec hz₂ (by simp) fun h₃ _ hs₃ => ?_
  refine wpAny_bind (wpAny_isInstance (T := "StopIteration") (b := true) ⟨oe, (hs₃.2 _ hez).trans hoe, hce⟩ isSubtype_stop ?_)
  exact wpAny_pure (hQ _ fun c o a _ d _ x => (hs₃.2 c a).trans (hs₂ _ _ d ((hs₁.2 c a).trans x)))
theorem zip_walks (hh : A.handled = none) (D : ZipApart z TI TO i1 i2 t1 t2) (hsz : xs.size = ys.size) :
    WalksU prog w A z [z, TI, TO, i1, i2, t1, t2] [z, TO, i1, i2] xs.size (fun i vals => ∃ x y, xs[i]? = some x ∧ ys[i]? = some y ∧ vals = #[x, y])
      (fun i h => ZipS z TI TO i1 i2 t1 t2 xs ys .none i h) (fun i T h => ZipS z TI TO i1 i2 t1 t2 xs ys (rawInt T) (i + 1) h ∧ T ≠ z ∧ T ≠ TO ∧ T ≠ i1 ∧ T ≠ i2) where
  sub := fun c hc => by simp at hc ⊢; rcases hc with rfl | rfl | rfl | rfl <;> simp
  frame := fun i h h' S hk => ⟨hk z (by simp) _ S.z, hk TI (by simp) _ S.ti, let ⟨a, b, e⟩ := S.to; ⟨a, b, hk TO (by simp) _ e⟩, hk i1 (by simp) _ S.a, hk i2 (by simp) _ S.b,
    let ⟨o, e, r⟩ := S.x; ⟨o, hk t1 (by simp) o e, r⟩, let ⟨o, e, r⟩ := S.y; ⟨o, hk t2 (by simp) o e, r⟩⟩
  item := fun i s Q E hi S hQ => by
    have hiy : i < ys.size := hsz ▸ hi
    refine zip_some D S (Array.getElem?_eq_getElem hi) (Array.getElem?_eq_getElem hiy) fun h' a1 a2 a3 a4 a5 hk => ?_
    have lt : ∀ {c o}, s.heap.get? c = some o → s.heap.objs.size ≠ c := fun e => Nat.ne_of_gt (Heap.lt_size e)
    obtain ⟨a, b, hTO⟩ := S.to
    exact hQ s.heap.objs.size #[xs[i], ys[i]] h' s.toks ⟨_, _, Array.getElem?_eq_getElem hi, Array.getElem?_eq_getElem hiy, rfl⟩ ⟨_, a5, rfl, _, rfl⟩
      ⟨⟨a1, hk _ _ D.TIz D.TITO D.TIi1 D.TIi2 S.ti, a2, a3, a4, let ⟨o, e, r⟩ := S.x; ⟨o, hk _ o D.l1z D.l1TO D.l1i1 D.l1i2 e, r⟩, let ⟨o, e, r⟩ := S.y; ⟨o, hk _ o D.l2z D.l2TO D.l2i1 D.l2i2 e, r⟩⟩, lt S.z, lt hTO, lt S.a, lt S.b⟩
      fun c o hc e => hk c o (fun x => hc (by simp [x])) (fun x => hc (by simp [x])) (fun x => hc (by simp [x])) (fun x => hc (by simp [x])) e
  go := fun elts k pos i T s Q E hm hQ => by
    obtain ⟨S, _⟩ := hm
    refine wpAny_letOwnedTupleGo_zip S.z fun h' hz' hs' => hQ h' ⟨hz', (hs'.2 _ D.TIz).trans S.ti, let ⟨a, b, e⟩ := S.to; ⟨a, b, (hs'.2 _ D.TOz).trans e⟩, (hs'.2 _ D.i1z).trans S.a, (hs'.2 _ D.i2z).trans S.b, tup_ext S.x hs'.extBut D.l1z, tup_ext S.y hs'.extBut D.l2z⟩
      fun c o hc e => (hs'.2 c (fun x => hc (by simp [x]))).trans e
  apart := fun i T h hm hT => by
    obtain ⟨_, q1, q2, q3, q4⟩ := hm
    simp at hT
    rcases hT with rfl | rfl | rfl | rfl
    · exact q1 rfl
    · exact q2 rfl
    · exact q3 rfl
    · exact q4 rfl
  done := fun s Q E S hQ => zip_none hh D S (Array.getElem?_eq_none (Nat.le_refl _)) fun h' hk => hQ h' s.toks fun c o hc e => hk c o (fun x => hc (by simp [x])) (fun x => hc (by simp [x])) (fun x => hc (by simp [x])) (fun x => hc (by simp [x])) e
  self := fun i s Q E S hQ => wpAny_pyIter_zip S.z hQ
end
section
variable {w : World} {s₀ s s' : Shared} {L C : Addr} {m m' mc : Str → Option Value} {k₀ k k' : Heap} {mu mu' : List (Addr × Obj)} {A : Around} {E : Value → Shared → Prop} {env : Env}
theorem gl_bm (w : World) : nsIn (KK w) mainGlobals (Str.ofString "__builtins__") = some (some (.ref 4)) := by rfl
theorem wr_out {n c b : Nat} (hb : b < n) (hc : n ≤ c) : b ∉ c :: [n + 4, n + 3, n, n + 1] := by intro q; simp only [List.mem_cons, List.not_mem_nil, or_false] at q; omega
theorem wr_out4 {n b : Nat} (hb : b < n) : b ∉ [n + 4, n + 3, n, n + 1] := by intro q; simp only [List.mem_cons, List.not_mem_nil, or_false] at q; omega
theorem fp_lt {n m t1 t2 : Nat} (h : n + 5 ≤ m) (h1 : t1 < n) (h2 : t2 < n) : ∀ b ∈ [n + 4, n + 2, n + 3, n, n + 1, t1, t2], b < m := by
  intro b q; simp only [List.mem_cons, List.not_mem_nil, or_false] at q; omega
theorem fp_lt5 {m a b : Nat} (h : m < a) (hb : b ∈ a :: m :: List.range m) : b < a + 1 := by
  rcases List.mem_cons.mp hb with q | hb
  · omega
  · rcases List.mem_cons.mp hb with q | hb
    · omega
    · have := List.mem_range.mp hb; omega
abbrev zp1 (h : Heap) (t1 : Addr) : Heap := h.push (tit t1 0)
abbrev zp2 (h : Heap) (t1 t2 : Addr) : Heap := (zp1 h t1).push (tit t2 0)
abbrev zp3 (h : Heap) (t1 t2 : Addr) : Heap := (zp2 h t1 t2).push { cls := .type "tuple", data := .seq #[.ref h.objs.size, .ref (zp1 h t1).objs.size] }
abbrev zp4 (h : Heap) (t1 t2 : Addr) : Heap := (zp3 h t1 t2).push { cls := .type "tuple", data := .seq #[.none, .none] }
abbrev zp5 (h : Heap) (t1 t2 : Addr) : Heap := (zp4 h t1 t2).push { cls := .type "zip", data := .fields #[.none, .bool false, .bool false, .ref (zp2 h t1 t2).objs.size, .ref (zp3 h t1 t2).objs.size] }
theorem zip_new (t1 t2 : Addr) (xs ys : Array Value) :
    Meets (Builtin.«zip.__new__» ⟨[.type "zip", .ref t1, .ref t2], []⟩) (fun _ R s => s.heap.IsTuple t1 xs ∧ s.heap.IsTuple t2 ys ∧ R (.ok (.ret (.ref (zp4 s.heap t1 t2).objs.size))) { s with heap := zp5 s.heap t1 t2 }) :=
  .of_wp fun prog w A R s h => by
    obtain ⟨hp, g, d, tk, os⟩ := s; obtain ⟨hl1, hl2, h⟩ := h
    have hsub := sub_zip
    have hL1 : Heap.IsTuple (Shared.heap ⟨hp, g, d, tk, os⟩) t1 xs := hl1
    have hL2 : Heap.IsTuple (Shared.heap ⟨hp.push { cls := .type "tuple_iterator", data := .fields #[.ref t1, .int 0 0] }, g, d, tk, os⟩) t2 ys := Heap.IsTuple.push hl2 _
    wp_walk using wpAny_pyIter_tuple hL1, wpAny_pyIter_tuple hL2
    exact ⟨_, rfl, h⟩
structure ZipNew (w : World) (s₀ : Shared) (k₀ : Heap) (L : Addr) (m : Str → Option Value) (k : Heap) (mu : List (Addr × Obj)) (t1 t2 : Addr) (xs ys : Array Value) (sb s : Shared) : Prop where
  F : Fm w Kp s₀ k₀ L m k mu sb
  same : ∃ h', s = { sb with heap := h' }
  keep : ∀ c o, sb.heap.get? c = some o → s.heap.get? c = some o
  size : s.heap.objs.size = sb.heap.objs.size + 5
  zip : ZipS (sb.heap.objs.size + 4) (sb.heap.objs.size + 2) (sb.heap.objs.size + 3) sb.heap.objs.size (sb.heap.objs.size + 1) t1 t2 xs ys .none 0 s.heap
  lt1 : t1 < sb.heap.objs.size
  lt2 : t2 < sb.heap.objs.size
theorem c_zip {t1 t2 : Addr} {xs ys : Array Value} {Q : Value → Shared → Prop} (F : Fm w Kp s₀ k₀ L m k mu s) (h1 : IsTup s.heap t1 xs) (h2 : IsTup s.heap t2 ys) (h : ∀ s', ZipNew w s₀ k₀ L m k mu t1 t2 xs ys s s' → Q (.ref (s.heap.objs.size + 4)) s') :
    wpAny (model Pr w) A (call (.type "zip") [.ref t1, .ref t2]) Q E s := by
  refine callType_new PySem.F.called_zip (by decide) (PySem.F.typeCall_zip_2 _ _) (PySem.F.newCall_zip_2 _ _) (fun obj => PySem.F.args_object_init_3 obj _ _) PySem.F.entry_zip_new (zip_new t1 t2 xs ys) ⟨h1, h2, ?_⟩
  have z1 : (zp1 s.heap t1).objs.size = s.heap.objs.size + 1 := Heap.size_push ..
  have z2 : (zp2 s.heap t1 t2).objs.size = s.heap.objs.size + 2 := by rw [Heap.size_push, z1]
  have z3 : (zp3 s.heap t1 t2).objs.size = s.heap.objs.size + 3 := by rw [Heap.size_push, z2]
  have z4 : (zp4 s.heap t1 t2).objs.size = s.heap.objs.size + 4 := by rw [Heap.size_push, z3]
  have z5 : (zp5 s.heap t1 t2).objs.size = s.heap.objs.size + 5 := by rw [Heap.size_push, z4]
  have g5 : (zp5 s.heap t1 t2).get? (zp4 s.heap t1 t2).objs.size = some _ := Heap.get?_push_size _ rfl
  have g4 : (zp5 s.heap t1 t2).get? (zp3 s.heap t1 t2).objs.size = some _ := Heap.get?_push_of_some _ (Heap.get?_push_size _ rfl)
  have g3 : (zp5 s.heap t1 t2).get? (zp2 s.heap t1 t2).objs.size = some _ := Heap.get?_push_of_some _ (Heap.get?_push_of_some _ (Heap.get?_push_size _ rfl))
  have g2 : (zp5 s.heap t1 t2).get? (zp1 s.heap t1).objs.size = some _ := Heap.get?_push_of_some _ (Heap.get?_push_of_some _ (Heap.get?_push_of_some _ (Heap.get?_push_size _ rfl)))
  have g1 : (zp5 s.heap t1 t2).get? s.heap.objs.size = some _ := Heap.get?_push_of_some _ (Heap.get?_push_of_some _ (Heap.get?_push_of_some _ (Heap.get?_push_of_some _ (Heap.get?_push_size _ rfl))))
  have keep : ∀ c o, s.heap.get? c = some o → (zp5 s.heap t1 t2).get? c = some o := fun c o x => Heap.get?_push_of_some _ (Heap.get?_push_of_some _ (Heap.get?_push_of_some _ (Heap.get?_push_of_some _ (Heap.get?_push_of_some _ x))))
  show _ ∧ _
  rw [z2, z3, z4] at g5
  rw [z1, z2] at g3
  rw [z3] at g4
  rw [z1] at g2
  rw [z4]
  refine ⟨⟨_, g5, rfl⟩, h _ ⟨F, ⟨_, rfl⟩, keep, z5, ⟨g5, g3, ⟨_, _, g4⟩, g1, g2, let ⟨o, e, r⟩ := h1; ⟨o, keep _ _ e, r⟩, let ⟨o, e, r⟩ := h2; ⟨o, keep _ _ e, r⟩⟩, ?_, ?_⟩⟩
  · obtain ⟨o, e, _⟩ := h1; exact Heap.lt_size e
  · obtain ⟨o, e, _⟩ := h2; exact Heap.lt_size e
theorem table_det {h : Heap} {c P : Addr} {ps qs : Array Value} (x : h.TableAt c P ps) (y : h.TableAt c P qs) : ps = qs := by
  have a := x.2; have b := y.2
  rw [a] at b
  injection b with b; injection b with _ _ b _; injection b
theorem c_gcode {pos : Pos} {q : Str} {scope : Scope} {Q : Value → Shared → Prop} (G : Gd w s) (hc : env.code = .ref 34)
    (h : ∀ code h' tk, (∀ b o, b ≠ Pt → s.heap.get? b = some o → h'.get? b = some o) → s.heap.objs.size ≤ h'.objs.size →
      (∀ ps, s.heap.IsCode 34 Pt ps → s.heap.TableAt 34 Pt ps → ∃ more, h'.IsCode 34 Pt (ps ++ more) ∧ h'.TableAt 34 Pt (ps ++ more)) → Q code { s with heap := h', toks := tk }) :
    wpAny (model Pr w) A (genexprCode env pos q scope) Q E s := by
  obtain ⟨ps, h1, h2⟩ := G.tab
  cases hf : codeAmong pos ps.toList with
  | none =>
    refine wpAny_genexprCodeX hc h1 h2 hf fun c' h' tk hx hge hlt hcode _ htab _ => h _ h' tk (fun b o hb e => hx b o hb e) (Nat.le_trans hge (Nat.le_of_lt hlt)) fun qs _ y => ?_
    have e := table_det h2 y
    subst e
    exact ⟨_, hcode, htab⟩
  | some c' =>
    refine wpAny_genexprCode_hit hc h1 hf (h c' s.heap s.toks (fun _ _ _ e => e) (Nat.le_refl _) fun qs x y => ⟨#[], by simpa using x, by simpa using y⟩)
theorem c_bfor {x : Addr} {Q : Addr → Shared → Prop} (G : Gd w s) (h : Q builtinsNs s) : wpAny (model Pr w) A (builtinsFor mainGlobals x) Q E s :=
  let ⟨mg, bm, ob, M⟩ := G.bm; wpAny_builtinsFor M.ns M.name M.ne M.obj M.cls M.dict M.data h
theorem e_gensum {elt iter : Expr} {xa xb : Str} {pa pb pt : Pos} {kt : Nat} {scope : Scope} {cl : List (Str × Addr)} {pos : Pos} {Qg Q : Value → Shared → Prop} {t1 t2 : Addr} {xs ys : Array Value} (F : Fm w Kp s₀ k₀ L m k mu s)
    (hh : A.handled = none) (hroom : A.depth < recursionLimit) (hcode : env.code = .ref 34) (hglob : env.globals = mainGlobals) (hclos : closureFor scope env = pure cl)
    (hi : wpAny (model Pr w) A (eval iter env) (fun v s' => ∃ sb, v = .ref (sb.heap.objs.size + 4) ∧ ZipNew w s₀ k₀ L m k mu t1 t2 xs ys sb s') E s)
    (hsz : xs.size = ys.size) (hz : xs.size ≤ 1000) (ix : ∀ (i : Nat) (v : Value), xs[i]? = some v → ∃ n t, v = .int n t) (iy : ∀ (i : Nat) (v : Value), ys[i]? = some v → ∃ n t, v = .int n t)
    (helt : ∀ (A' : Around) (E' : Value → Shared → Prop) (C : Addr) (code : Value) (a b : Int) (ta tb : Tok) (s₂ : Shared) (m₂ : Str → Option Value), s₂.heap.Ns C m₂ → m₂ xa = some (.int a ta) → m₂ xb = some (.int b tb) →
      wpAny (model Pr w) A' (eval elt (genEnv scope cl C code builtinsNs env)) (fun y s₃ => (∃ t, y = .int (a + b) t) ∧ Keeps s₂ s₃) E' s₂)
    (hg : ∀ a s', wpAny (model Pr w) A (call (.type "tuple") [.ref a]) Q E s' → Qg (.ref a) s')
    (h : ∀ (T : Addr) (vs : List Value) s', vs.length = xs.size → (∀ (i : Nat) (x y : Int) (tx ty : Tok), xs[i]? = some (.int x tx) → ys[i]? = some (.int y ty) → ∃ t, vs[i]? = some (.int (x + y) t)) →
      Fm w Kp s₀ k₀ L m k ((T, { cls := .type "tuple", data := .seq vs.toArray }) :: mu) s' → Q (.ref T) s')
    (hco : scope.isCoroutine = false := by rfl) (hcell : ∀ y ∈ scope.names, y.2 ≠ .cell := by decide) (h0 : scope.names.lookup (".0" : Str) = some NameKind.local := by rfl)
    (hxa : scope.names.lookup xa = some .local := by rfl) (hxb : scope.names.lookup xb = some .local := by rfl) (hab : xa ≠ xb := by decide) (hkind : scope.kind = .function := by rfl) (hs : ∀ x, genFold iter env x = pure x := by intro _; rfl) :
    wpAny (model Pr w) A (eval (.GeneratorExp elt [⟨.Tuple [.Name xa pa, .Name xb pb] kt pt, iter, [], 0⟩] scope pos) env) Qg E s := by
  refine wpAny_GeneratorExp_walksQT hh hco hclos hcell h0 hxa hxb hab hkind hroom (wpAny_mono hi (fun xv s₁ h₁ => ?_) fun _ _ e => e) hs
  obtain ⟨sb, rfl, Z⟩ := h₁
  obtain ⟨F, ⟨h1, rfl⟩, keep1, size1, S, lt1, lt2⟩ := Z
  refine wpAny_pyIter_zip S.z ?_
  have hp : Pt < sb.heap.objs.size := Nat.lt_of_lt_of_le F.g₀.pt_lt F.size_le
  have G1 : Gd w { sb with heap := h1 } := F.gd.keeps ⟨h1, sb.toks, rfl, keep1⟩
  obtain ⟨mg1, mb1, T1⟩ := G1.T
  refine ⟨T1.nolimit, ?_⟩
  refine c_gcode G1 hcode fun code h3 tk3 keep3 size3 tab3 => ?_
  have K3 : Kp { sb with heap := h1 } { sb with heap := h3, toks := tk3 } := ⟨keep3, rfl, id, tab3⟩
  have G3 : Gd w { sb with heap := h3, toks := tk3 } := G1.kp K3
  rw [hglob]
  refine c_bfor G3 ?_
  obtain ⟨mg3, mb3, T3⟩ := G3.T
  have hcs : cStatics < sb.heap.objs.size := Nat.lt_trans (by decide) hp
  have fpPt : ∀ b ∈ [sb.heap.objs.size + 4, sb.heap.objs.size + 2, sb.heap.objs.size + 3, sb.heap.objs.size, sb.heap.objs.size + 1, t1, t2], b ≠ Pt := by
    intro b hb e
    simp only [List.mem_cons, List.not_mem_nil, or_false] at hb
    obtain ⟨o1, e1, r1⟩ := S.x
    obtain ⟨o2, e2, r2⟩ := S.y
    have notT : ∀ {t : Addr} {o : Obj}, h1.get? t = some o → o.cls = .type "tuple" → t ≠ Pt := by
      intro t o q c e
      obtain ⟨ps, _, tt⟩ := G1.tab
      have := tt.2
      rw [e] at q
      rw [q] at this
      cases this; cases c
    rcases hb with rfl | rfl | rfl | rfl | rfl | rfl | rfl
    · exact absurd hp (Nat.not_lt.mpr (Nat.le_trans (Nat.le_add_right _ 4) (Nat.le_of_eq e)))
    · exact absurd hp (Nat.not_lt.mpr (Nat.le_trans (Nat.le_add_right _ 2) (Nat.le_of_eq e)))
    · exact absurd hp (Nat.not_lt.mpr (Nat.le_trans (Nat.le_add_right _ 3) (Nat.le_of_eq e)))
    · exact absurd hp (Nat.not_lt.mpr (Nat.le_of_eq e))
    · exact absurd hp (Nat.not_lt.mpr (Nat.le_trans (Nat.le_add_right _ 1) (Nat.le_of_eq e)))
    · exact notT e1 r1.1 e
    · exact notT e2 r2.1 e
  have D : ZipApart (sb.heap.objs.size + 4) (sb.heap.objs.size + 2) (sb.heap.objs.size + 3) sb.heap.objs.size (sb.heap.objs.size + 1) t1 t2 := zipApart_new lt1 lt2
  refine ⟨sb.heap.objs.size + 4, [sb.heap.objs.size + 4, sb.heap.objs.size + 2, sb.heap.objs.size + 3, sb.heap.objs.size, sb.heap.objs.size + 1, t1, t2], [sb.heap.objs.size + 4, sb.heap.objs.size + 3, sb.heap.objs.size, sb.heap.objs.size + 1], xs.size, _, _, _, fun _ => true,
    fun i y => ∃ a b ta tb t, xs[i]? = some (.int a ta) ∧ ys[i]? = some (.int b tb) ∧ y = .int (a + b) t, rfl, fun A' hA => zip_walks hA D hsz, ?_, ?_, ?_, T3.nolimit, ?_, fun href hhref => ?_, fun a h5 tk5 gs hgb hag hsz5 keep5 W hat => ?_⟩
  · rintro i vals ⟨x, y, _, _, rfl⟩; exact ⟨x, y, rfl⟩
  · exact (zip_walks (prog := Pr) (w := w) hh D hsz).frame 0 _ _ S fun b hb o e => keep3 b o (fpPt b hb) e
  · exact fp_lt (Nat.le_trans (Nat.le_of_eq size1.symm) size3) lt1 lt2
  · exact wr_out4 hcs
  · refine ⟨fun A' E' i va vb s₂ m₂ hA hP hn ha hb _ => wpAny_tests_nil ⟨rfl, s₂.heap, s₂.toks, rfl, fun _ _ e => e⟩, fun A' E' i va vb s₂ m₂ hA hP _ hn ha hb _ => ?_⟩
    obtain ⟨x, y, hx, hy, e⟩ := hP
    simp only [Array.mk.injEq, List.cons.injEq, and_true] at e
    obtain ⟨rfl, rfl⟩ := e
    obtain ⟨n1, u1, rfl⟩ := ix i _ hx
    obtain ⟨n2, u2, rfl⟩ := iy i _ hy
    exact wpAny_mono (helt A' E' _ code n1 n2 u1 u2 s₂ m₂ hn ha hb) (fun y s₃ ⟨⟨t, e⟩, hk⟩ => ⟨⟨n1, n2, u1, u2, t, hx, hy, e⟩, hk⟩) fun _ _ e => e
  · refine hg a _ ?_
    have hpass : passing (fun _ => true) xs.size 0 = List.range xs.size := by unfold passing; simp
    refine call_tuple_gen (hsz := by rw [hpass, List.length_range, sizeLine_eq]; omega) W.in4_3 (fun i s' st => st.1.typeIs) hat ?_ List.mem_cons_self fun s6 acc hm hacc => ?_
    · intro b hb
      show b < h5.objs.size
      rw [hsz5]
      exact fp_lt5 hag hb
    · have e3 : sb.heap.objs.size ≤ h3.objs.size := Nat.le_trans (Nat.le_add_right _ 5) (Nat.le_trans (Nat.le_of_eq size1.symm) size3)
      have nwr : ∀ b, b < sb.heap.objs.size → b ∉ h3.objs.size :: [sb.heap.objs.size + 4, sb.heap.objs.size + 3, sb.heap.objs.size, sb.heap.objs.size + 1] := fun b hlt => wr_out hlt e3
      have keep : ∀ b o, b ≠ Pt → sb.heap.get? b = some o → s6.heap.get? b = some o := fun b o hb e => hm.heap b o (nwr b (Heap.lt_size e)) (keep5 b o (keep3 b o hb (keep1 b o e)))
      have K : Kp sb { s6 with heap := s6.heap.push { cls := .type "tuple", data := .seq acc } } := by
        refine ⟨fun b o hb e => Heap.get?_push_of_some _ (keep b o hb e), hm.os, fun hB => ?_, fun ps x y => ?_⟩
        · exact AllBare.moved (hB.push hgb) hm.gens
        · obtain ⟨more, x3, y3⟩ := tab3 ps (x.keeps keep1) (y.keeps keep1)
          refine ⟨more, ?_, ?_⟩
          · exact isCode_two (x3.keeps keep5) (fun o e => Heap.get?_push_of_some _ (hm.heap _ o (nwr 34 (Nat.lt_of_le_of_lt (by decide) (x.lt).1)) e)) fun o e => Heap.get?_push_of_some _ (hm.heap _ o (nwr Pt hp) e)
          · exact tableAt_two (y3.keeps keep5) (fun o e => Heap.get?_push_of_some _ (hm.heap _ o (nwr 34 (Nat.lt_of_le_of_lt (by decide) (x.lt).1)) e)) fun o e => Heap.get?_push_of_some _ (hm.heap _ o (nwr Pt hp) e)
      have F6 : Fm w Kp s₀ k₀ L m k mu { s6 with heap := s6.heap.push { cls := .type "tuple", data := .seq acc } } :=
        F.back K (Sub.refl k) (fun _ _ e => .inl e) (fun b o e => Heap.get?_push_of_some _ (keep b o (by rintro rfl; rw [F.kP] at e; cases e) (F.led b o e))) F.kP
      have at6 : ∀ b o, b ≠ Pt → sb.heap.get? b = some o → b < s6.heap.objs.size := fun b o hb e => Heap.lt_size (keep b o hb e)
      have hL6 : L < s6.heap.objs.size := by obtain ⟨oL, _, _, eL, _⟩ := F.ns; exact at6 L oL F.L_ne eL
      have F7 := F6.adopt (b := s6.heap.objs.size) (Heap.get?_push_size _ rfl) (Nat.ne_of_gt hL6) (Nat.le_trans F.new (Nat.le_of_lt hL6)) (by
        cases q : k.get? s6.heap.objs.size with
        | none => rfl
        | some o => exact absurd (at6 _ o (by rintro e; rw [e, F.kP] at q; cases q) (F.led _ _ q)) (Nat.lt_irrefl _)) (fun q => by
          obtain ⟨p, hp, e⟩ := List.mem_map.mp q
          exact absurd (at6 _ _ (F.mut_ne hp) (F.mt p hp).1) (e ▸ Nat.lt_irrefl _))
      have ea : acc = acc.toList.toArray := by simp
      rw [ea] at F7
      obtain ⟨ha1, ha2⟩ := hacc
      rw [hpass, List.length_range] at ha1
      refine h _ acc.toList _ (by rw [Array.length_toList]; exact ha1) (fun i x y tx ty hx hy => ?_) (by
        have := F7
        simpa using this)
      have hi : i < xs.size := by
        rcases Nat.lt_or_ge i xs.size with q | q
        · exact q
        · rw [Array.getElem?_eq_none q] at hx; cases hx
      obtain ⟨j, hj, a, b, ta, tb, t, e1, e2, e3⟩ := ha2 i acc[i] (by simp [ha1, hi])
      rw [hpass] at hj
      have hji : i = j := by
        have := (List.getElem?_eq_some_iff.mp hj).2
        simpa using this
      subst hji
      rw [hx] at e1; rw [hy] at e2
      cases e1; cases e2
      exact ⟨t, by rw [Array.getElem?_toList, ← e3]; simp [ha1, hi]⟩
end
section
variable {w : World} {R : Shared → Shared → Prop} {s₀ s s' : Shared} {L C : Addr} {m m' mc : Str → Option Value} {k₀ k k' : Heap} {mu mu' : List (Addr × Obj)} {A : Around} {E : Value → Shared → Prop} {env : Env}
def CompDV (w : World) (A : Around) (kx vx iter : Expr) (x : Str) (px : Pos) (scope : Scope) (cl : List (Str × Addr)) (pos : Pos) (env : Env) (Q : Value → Shared → Prop) (v : Value) (s : Shared) : Prop :=
  wpAny (model Pr w) A (pyIter v) (fun it s₂ => wpAny (model Pr w) A newDict (fun acc s₃ =>
    wpAny (model Pr w) A (newFunctionEnv scope env.globals cl [] env.qual none .none (some env)) (fun cenv s₄ =>
      codeAny (model Pr w) A (.compStart (.DictComp kx vx [⟨.Name x px, iter, [], 0⟩] scope pos) 0 it acc { cenv with scope := relabel scope env }) (compPost (model Pr w) A (fun _ _ => False) none Q acc cenv.locals) s₄) (fun _ _ => False) s₃) (fun _ _ => False) s₂) (fun _ _ => False) s
theorem e_dcomp {kx vx iter : Expr} {x : Str} {px : Pos} {scope : Scope} {cl : List (Str × Addr)} {pos : Pos} {Q : Value → Shared → Prop} (hclos : closureFor scope env = pure cl)
    (h : wpAny (model Pr w) A (eval iter env) (CompDV w A kx vx iter x px scope cl pos env Q) (fun _ _ => False) s)
    (hkind : scope.kind = .function := by rfl) (hnames : ∀ y ∈ scope.names, y.2 = .local → scope.names.lookup y.1 = some .local := by decide) (hs : ∀ x, foldedSetIterable iter env x = pure x := by intro _; rfl) :
    wpAny (model Pr w) A (eval (.DictComp kx vx [⟨.Name x px, iter, [], 0⟩] scope pos) env) Q (fun _ _ => False) s := by
  rw [arm_eval_DictComp]
  exact wpAny_comprehension_free (use := none) rfl hs hclos hkind hnames h
theorem o_newdict {Q : Value → Shared → Prop} (F : Fm w R s₀ k₀ L m k mu s) (h : ∀ d o s', IsD w o [] → Fm w R s₀ k₀ L m k ((d, o) :: mu) s' → Q (.ref d) s') : wpAny (model Pr w) A newDict Q E s :=
  wpAny_newObj_type (h _ _ _ ⟨#[], 0, ⟨rfl, rfl, rfl⟩, rfl, fun _ he => by simp at he, Pairs.nil, List.nodup_nil⟩ (F.push { cls := .type "dict", data := .dict #[] }))
theorem o_dset {d : Addr} {o : Obj} {kvs : List (Int × Value)} {i : Int} {t : Tok} {v : Value} {Q : Unit → Shared → Prop} (F : Fm w R s₀ k₀ L m k ((d, o) :: mu) s) (hd : IsD w o kvs) (hz : kvs.length ≤ 10000)
    (h : ∀ o' s', IsD w o' (stored kvs i v) → Fm w R s₀ k₀ L m k ((d, o') :: mu) s' → Q () s') : wpAny (model Pr w) A (dictSet d (.int i t) v) Q E s := by
  refine wpAny_dictSet_pairs (hsz := by rw [sizeLine_eq]; omega) (intKind_is Pr w i t) (hd.at F.at0) fun h' hd' hs' => ?_
  obtain ⟨o', e, q⟩ := Heap.dictOf_iff.mp hd'
  exact h o' _ q (F.turn (tk := s.toks + 1) hs' e)
theorem compD_any {kx vx iter : Expr} {x : Str} {px : Pos} {scope : Scope} {cl : List (Str × Addr)} {pos : Pos} {I : Addr} {o : Obj} {fp wr : List Addr} {n : Nat} {P : Nat → Value → Prop} {St : Nat → Heap → Prop} {Q : Value → Shared → Prop}
    (W : Walks Pr w A I fp wr n P St) (F : Fm w R s₀ k₀ L m k ((I, o) :: mu) s) (hst : St 0 s.heap) (hwr : ∀ b ∈ wr, b = I) (hfp : ∀ b ∈ fp, b = I ∨ ∃ ob, k.get? b = some ob) (hex : ∀ i h, St i h → ∃ o, h.get? I = some o) (hz : n ≤ 10000)
    (J : Nat → List (Int × Value) → Prop) (hJ : J 0 [])
    (turn : ∀ i v kvs C mc k' mu' s, i < n → P i v → Sub k k' → J i kvs → mc x = some v → Fm w R s₀ k₀ C mc k' mu' s →
      wpAny (model Pr w) A (eval kx (compEnvC scope cl C env)) (fun kv s₂ => ∃ key t, kv = .int key t ∧ wpAny (model Pr w) A (eval vx (compEnvC scope cl C env)) (Elt w R s₀ k₀ C k' mu' (fun y => J (i + 1) (stored kvs key y))) (fun _ _ => False) s₂) (fun _ _ => False) s)
    (done : ∀ D od kvs k' s, J n kvs → Sub k k' → IsD w od kvs → Fm w R s₀ k₀ L m k' ((D, od) :: mu) s → Q (.ref D) s)
    (hcell : ∀ y ∈ scope.names, y.2 ≠ .cell := by decide) (hkind : scope.kind = .function := by rfl) (hx : scope.names.lookup x = some .local := by rfl) :
    wpAny (model Pr w) A newDict (fun acc s₃ => wpAny (model Pr w) A (newFunctionEnv scope env.globals cl [] env.qual none .none (some env)) (fun cenv s₄ =>
      codeAny (model Pr w) A (.compStart (.DictComp kx vx [⟨.Name x px, iter, [], 0⟩] scope pos) 0 (.ref I) acc { cenv with scope := relabel scope env }) (compPost (model Pr w) A (fun _ _ => False) none Q acc cenv.locals) s₄) (fun _ _ => False) s₃) (fun _ _ => False) s := by
  refine o_newdict F fun D od s₁ hod F₁ => ?_
  have hstI : St 0 s₁.heap := by
    refine W.frame _ _ _ hst fun b hb ob e => ?_
    rcases hfp b hb with rfl | ⟨ob', q⟩
    · have h1 := F.at0; dsimp only at h1
      rw [h1] at e; cases e
      exact F₁.at1
    · have := F.led b ob' q
      rw [e] at this; cases this
      exact F₁.led b ob q
  refine wpAny_newFunctionEnv hcell (by intro y hy; simp at hy) (fun h₁ hns₁ hsb₁ => ?_) hkind
  have F₂ : Fm w R s₀ k₀ L m k ((s₁.heap.objs.size, { cls := .type "dict", data := .dict #[] }) :: (D, od) :: (I, o) :: mu) { s₁ with heap := s₁.heap.push { cls := .type "dict", data := .dict #[] } } := F₁.push _
  obtain ⟨oc, es, ep, hoc, rc⟩ := hns₁
  have F₃ : Fm w R s₀ k₀ L m k ((s₁.heap.objs.size, oc) :: (D, od) :: (I, o) :: mu) { s₁ with heap := h₁, toks := s₁.toks + ([] : List (Str × Value)).length } := F₂.turn (tk := s₁.toks + ([] : List (Str × Value)).length) hsb₁ hoc
  have hst₃ : St 0 h₁ := by
    refine W.frame _ _ _ hstI fun b hb ob e => ?_
    rcases hfp b hb with rfl | ⟨ob', q⟩
    · have h1 := F₁.at1; dsimp only at h1
      rw [h1] at e; cases e
      exact F₃.at2
    · have := F₁.led b ob' q
      rw [e] at this; cases this
      exact F₃.led b ob q
  obtain ⟨kI, ol, hkL, hnL, hsub, F₄⟩ := F₃.into (mc := fun x => ([] : List (Str × Value)).reverse.lookup x) ⟨oc, es, ep, hoc, rc⟩
  have loop : ∀ s₃ : Shared, s₃ = { s₁ with heap := h₁, toks := s₁.toks + ([] : List (Str × Value)).length } →
      codeAny (model Pr w) A (.compLoop (.DictComp kx vx [⟨.Name x px, iter, [], 0⟩] scope pos) 0 (.ref I) (.ref D) (compEnvC scope cl s₁.heap.objs.size env)) (compPost (model Pr w) A (fun _ _ => False) none Q (.ref D) s₁.heap.objs.size) s₃ := by
    rintro s₃ rfl
    refine codeAny_compLoop_testsD (fun c s => ∃ i mc k' kvs od o', c = n + 1 - i ∧ i ≤ n ∧ St i s.heap ∧ J i kvs ∧ kvs.length ≤ i ∧ Sub kI k' ∧ IsD w od kvs ∧ Fm w R s₀ k₀ s₁.heap.objs.size mc k' ((D, od) :: (I, o') :: mu) s) ?_ (n + 1)
      ⟨0, _, kI, [], od, o, rfl, Nat.zero_le _, hst₃, hJ, Nat.le_refl _, Sub.refl _, hod, F₄⟩
    rintro c s ⟨i, mc, k', kvs, od, o', rfl, hi, hst, hJ, hlen, hs, hod, F⟩
    by_cases hlt : i < n
    · refine W.item i s _ _ hlt hst fun v h' tk hP hst' hk => ?_
      obtain ⟨o'', ho''⟩ := hex _ _ hst'
      have F' : Fm w R s₀ k₀ s₁.heap.objs.size mc k' ((D, od) :: (I, o'') :: mu) { s with heap := h', toks := tk } := (F.swap.iter (tk := tk) hwr hk ho'').swap
      refine wpAny_assign_Name (x_store F' (fun s₂ F₂ => ?_) rfl (by simp [compEnvC, relabel, hkind]) (lookup_relabel_local hx))
      refine wpAny_tests_nil ?_
      simp only [if_true]
      refine wpAny_mono (turn i v kvs _ _ k' _ _ hlt hP (hsub.trans hs) hJ up_same F₂) (fun kv s₃ ⟨key, t, e, h₃⟩ => ?_) fun _ _ x => x.elim
      subst e
      refine wpAny_mono h₃ (fun y s₄ ⟨k'', mc', hs', hJ', F₄⟩ => ?_) fun _ _ x => x.elim
      have hst4 := stored_length_le kvs key y
      refine o_dset F₄ hod (by omega) fun od' s₅ hod' F₅ => ⟨n + 1 - (i + 1), by omega, i + 1, mc', k'', stored kvs key y, od', o'', rfl, hlt, W.frame _ _ _ hst' fun b hb ob e => ?_, hJ', by omega, hs.trans hs', hod', F₅⟩
      rcases hfp b hb with rfl | ⟨ob', q⟩
      · rw [ho''] at e; cases e
        exact F₅.at1
      · have := F'.led b ob' (hs _ _ (hsub _ _ q))
        rw [e] at this; cases this
        exact F₅.led b ob (hs' _ _ (hs _ _ (hsub _ _ q)))
    · have e : i = n := by omega
      subst e
      refine W.done s _ _ hst fun h' tk hk => ?_
      have F' := F.swap.iterEnd (tk := tk) hwr hk
      obtain ⟨oc, hoc, F''⟩ := F'.outof (hs _ _ hkL) hnL F₃.new F₃.k₀L
      have sb : Sub k (k'.hide L) := fun b o e => (Heap.hide_ne _ (by rintro rfl; rw [F₃.kL] at e; cases e)).trans (hs _ _ (hsub _ _ e))
      exact ⟨_, hoc _ F''.at0, fun h'' hs'' => done D od kvs _ _ hJ sb hod (F''.wreck (tk := tk) hs'')⟩
  exact codeAny_compStart_dict (loop _ rfl) (W.self 0 _ _ _ hst₃ (loop _ rfl))
theorem compD_keys {kx vx iter : Expr} {x : Str} {px : Pos} {scope : Scope} {cl : List (Str × Addr)} {pos : Pos} {Q : Value → Shared → Prop} {d : Addr} {kvs : List (Int × Value)}
    (F : Fm w R s₀ k₀ L m k mu s) (hh : A.handled = none) (hd0 : DictK w k d kvs) (hsm : (d == sysModules) = false) (hz : kvs.length ≤ 10000) (J : Nat → List (Int × Value) → Prop) (hJ : J 0 [])
    (turn : ∀ i key t v acc C mc k' mu' s, kvs[i]? = some (key, v) → J i acc → Sub k k' → mc x = some (.int key t) → Fm w R s₀ k₀ C mc k' mu' s →
      wpAny (model Pr w) A (eval kx (compEnvC scope cl C env)) (fun kv s₂ => ∃ key t, kv = .int key t ∧ wpAny (model Pr w) A (eval vx (compEnvC scope cl C env)) (Elt w R s₀ k₀ C k' mu' (fun y => J (i + 1) (stored acc key y))) (fun _ _ => False) s₂) (fun _ _ => False) s)
    (done : ∀ D od acc k' s, J kvs.length acc → Sub k k' → IsD w od acc → Fm w R s₀ k₀ L m k' ((D, od) :: mu) s → Q (.ref D) s)
    (hcell : ∀ y ∈ scope.names, y.2 ≠ .cell := by decide) (hkind : scope.kind = .function := by rfl) (hx : scope.names.lookup x = some .local := by rfl) :
    CompDV w A kx vx iter x px scope cl pos env Q (.ref d) s := by
  obtain ⟨ep, hda⟩ := (DictK.mono hd0 F.led).dictAt
  have hne : d ≠ s.heap.objs.size := Nat.ne_of_lt hda.lt_size
  unfold CompDV
  refine wpAny_pyIter_dict hsm hda ?_
  refine compD_any (Walks.dictKeys hh s.heap.objs.size d hne kvs ep) (F.push _) ⟨⟨_, Heap.get?_push_size _ rfl, rfl, rfl⟩, hda.push _⟩ (fun b hb => List.mem_singleton.mp hb) (fun b hb => ?_) (fun i h st => let ⟨o, e, _⟩ := st.1; ⟨o, e⟩)
    hz J hJ (fun i v acc C mc k' mu' s hi hP hs hj hm F => ?_) done hcell hkind hx
  · rcases List.mem_cons.mp hb with q | q
    · exact .inl q
    · obtain ⟨o, _, _, e, _⟩ := hd0
      exact .inr ⟨o, by rw [List.mem_singleton.mp q]; exact e⟩
  · obtain ⟨key, y, hk, hi⟩ := hP
    obtain ⟨t, rfl⟩ := Value.isInt_shape (by simpa [intKind] using hi)
    exact turn i key t y acc C mc k' mu' s hk hj hs hm F
end
local macro_rules | `(tactic| walk_at "lk") => `(tactic| first | with_reducible exact up_same | ((with_reducible refine up_ne ?lkn ?lke); (case lkn => decide); (case lke => walk_at "lk")) | with_reducible assumption | exact rfl)
local macro_rules | `(tactic| walk_at "ev") => `(tactic| first
  | ((with_reducible show wpAny _ _ (eval (Expr.Name _ _) _) _ _ _); (with_reducible rename Fm _ _ _ _ _ _ _ _ _ => hF); first
      | (refine e_glob hF (by with_reducible walk_at "gl") ?_)
      | (refine e_bi hF (by with_reducible walk_at "bn") (by with_reducible walk_at "bv") ?_)
      | (refine e_loc hF (by walk_at "lk") ?_))
  | ((with_reducible show wpAny _ _ (eval (Expr.Constant (Const.int _) _ _) _) _ _ _); (with_reducible rename Fm _ _ _ _ _ _ _ _ _ => hF); refine e_int hF ?_; clear hF; intro _ _ _)
  | ((with_reducible show wpAny _ _ (eval (Expr.Constant (Const.str _) _ _) _) _ _ _); (with_reducible rename Fm _ _ _ _ _ _ _ _ _ => hF); refine e_str hF ?_; clear hF; intro _ _ _)
  | ((with_reducible show wpAny _ _ (eval (Expr.Call (Expr.Name _ _) _ [] _) _) _ _ _); refine e_call ?_)
  | ((with_reducible show wpAny _ _ (eval (Expr.Call (Expr.Attribute _ _ _) _ [] _) _) _ _ _); refine MethodCall_ ?_)
  | ((with_reducible show wpAny _ _ (eval (Expr.Constant (Const.bool _) _ _) _) _ _ _); refine wpAny_Constant_bool ?_)
  | ((with_reducible show wpAny _ _ (callWith _ (Value.builtin _) (_ :: _) (backTo _ (starEach (_ :: _) _)) []) _ _ _); refine c_m1 ?_)
  | ((with_reducible show wpAny _ _ (callWith _ (Value.builtin _) (_ :: _) (backTo _ (starEach [] _)) []) _ _ _); refine callWith_method0 ?_)
  | ((with_reducible show wpAny _ _ (execs (Stmt.Expr _ _ :: _) _) _ _ _); refine xs_expr ?_)
  | ((with_reducible show wpAny _ _ (PySem.isTrue (Expr.UnaryOp UnaryOp.Not _ _) _ _) _ _ _); refine isTrue_not ?_)
  | ((with_reducible show wpAny _ _ (callWith _ (Value.builtin _) [] (backTo _ (starEach (_ :: _) _)) []) _ _ _); refine c_bi ?_)
  | ((with_reducible show wpAny _ _ (callWith _ (Value.type _) [] (backTo _ (starEach (_ :: _) _)) []) _ _ _); refine c_ty ?_)
  | ((with_reducible show wpAny _ _ (callWith _ (Value.ref _) _ (backTo _ (starEach (_ :: _) _)) []) _ _ _); (with_reducible rename Fm _ _ _ _ _ _ _ _ _ => hF); refine c_fn hF (by with_reducible walk_at "kp") ?_)
  | ((with_reducible show wpAny _ _ (callWith _ (Value.ref _) _ (backTo _ (starEach [] _)) []) _ _ _); (with_reducible rename Fm _ _ _ _ _ _ _ _ _ => hF); refine c_fn0 hF (by with_reducible walk_at "kp") ?_)
  | ((with_reducible show CallF _ _ _ _ _ _ _); (with_reducible rename Fm _ _ _ _ _ _ _ _ _ => hF); refine callF hF ?_)
  | ((with_reducible show wpAny _ _ (eval (Expr.Attribute _ _ _) _) _ _ _); refine e_attr ?_)
  | ((with_reducible show wpAny _ _ (eval (Expr.Subscript _ _ _) _) _ _ _); refine e_sub ?_)
  | ((with_reducible show wpAny _ _ (execs (Stmt.Assign [Expr.Attribute _ _ _] _ _ :: _) _) _ _ _); refine xs_setattr ?_)
  | ((with_reducible show wpAny _ _ (execs (Stmt.Assign [Expr.Subscript _ _ _] _ _ :: _) _) _ _ _); refine xs_setitem ?_)
  | ((with_reducible show wpAny _ _ (execs (Stmt.Assign [_, _, _] _ _ :: _) _) _ _ _); refine xs_three ?_)
  | ((with_reducible show wpAny _ _ (execs (Stmt.Assign [Expr.Tuple _ _ _] (Expr.Tuple _ _ _) _ :: _) _) _ _ _); refine xs_swapped ?_)
  | ((with_reducible show wpAny _ _ (execs (Stmt.Assign [Expr.Tuple _ _ _] _ _ :: _) _) _ _ _); refine xs_tuple ?_)
  | ((with_reducible show wpAny _ _ (assign (Expr.Name _ _) _ _) _ _ _); refine a_name ?_)
  | ((with_reducible show wpAny _ _ (bindName _ _ _) _ _ _); refine a_bind ?_)
  | ((with_reducible show wpAny _ _ (eval (Expr.BinOp _ _ _ _) _) _ _ _); refine e_bin ?_)
  | ((with_reducible show wpAny _ _ (eval (Expr.Compare _ [_] [_] _) _) _ _ _); refine e_cmp ?_)
  | ((with_reducible show wpAny _ _ (eval (Expr.Tuple _ _ _) _) _ _ _); refine e_tuple ?_)
  | ((with_reducible show wpAny _ _ (eval (Expr.List _ _) _) _ _ _); refine e_list ?_)
  | ((with_reducible show wpAny _ _ (spliced (backTo _ (starEach [] _))) _ _ _); refine i_nil ?_)
  | ((with_reducible show wpAny _ _ (spliced (backTo _ (starEach (_ :: _) _))) _ _ _); refine i_cons ?_)
  | ((with_reducible show wpAny _ _ (execs (Stmt.Assign [Expr.Name _ _] _ _ :: _) _) _ _ _); refine xs_assign ?_)
  | ((with_reducible show wpAny _ _ (storeName _ _ _) _ _ _); (with_reducible rename Fm _ _ _ _ _ _ _ _ _ => hF); refine x_store hF ?_; clear hF; intro _ _)
  | ((with_reducible show wpAny _ _ (execs (Stmt.For _ _ _ [] _ :: _) _) _ _ _); refine xs_for ?_)
  | ((with_reducible show wpAny _ _ (execs (Stmt.If _ _ _ _ :: _) _) _ _ _); refine xs_if ?_)
  | ((with_reducible show wpAny _ _ (execs (Stmt.Return (some _) _ :: _) _) _ _ _); refine xs_ret ?_)
  | ((with_reducible show wpAny _ _ (PySem.isTrue (Expr.Compare _ [_] [_] _) _ _) _ _ _); refine t_cmp ?_)
  | ((with_reducible show wpAny _ _ (truthy (Value.bool _)) _ _ _); refine t_bool ?_)
  | ((with_reducible show wpAny _ _ (binaryOp Operator.Add (Value.int _ _) (Value.int _ _)) _ _ _); (with_reducible rename Fm _ _ _ _ _ _ _ _ _ => hF); refine o_add hF ?_; clear hF; intro _ _ _)
  | ((with_reducible show wpAny _ _ (binaryOp Operator.Sub (Value.int _ _) (Value.int _ _)) _ _ _); (with_reducible rename Fm _ _ _ _ _ _ _ _ _ => hF); refine o_sub hF ?_; clear hF; intro _ _ _)
  | ((with_reducible show wpAny _ _ (binaryOp Operator.Mod (Value.int _ _) (Value.int _ _)) _ _ _); (with_reducible rename Fm _ _ _ _ _ _ _ _ _ => hF); refine o_mod hF (by first | decide | omega) ?_; clear hF; intro _ _ _)
  | ((with_reducible show wpAny _ _ (binaryOp Operator.FloorDiv (Value.int _ _) (Value.int _ _)) _ _ _); (with_reducible rename Fm _ _ _ _ _ _ _ _ _ => hF); refine o_div hF (by first | decide | omega) (PyProof.noPylong_small (by omega)) ?_; clear hF; intro _ _ _)
  | ((with_reducible show wpAny _ _ (binaryOp Operator.Mult (Value.int _ _) (Value.int _ _)) _ _ _); (with_reducible rename Fm _ _ _ _ _ _ _ _ _ => hF); refine o_mul hF (by first | exact mul_r (by omega) | exact mul_l (by omega)) ?_; clear hF; intro _ _ _)
  | ((with_reducible show wpAny _ _ (binaryOp Operator.Add (Value.str _ _) (Value.str _ _)) _ _ _); (with_reducible rename Fm _ _ _ _ _ _ _ _ _ => hF); refine o_cat hF (by walk_at "len") ?_; clear hF; intro _ _ _)
  | ((with_reducible show wpAny _ _ (binaryOp Operator.Mult (Value.str _ _) (Value.int _ _)) _ _ _); (with_reducible rename Fm _ _ _ _ _ _ _ _ _ => hF); refine o_rep hF (by walk_at "rep") ?_; clear hF; intro _ _ _)
  | ((with_reducible show wpAny _ _ (execs (Stmt.Break _ :: _) _) _ _ _); refine xs_break ?_)
  | ((with_reducible show wpAny _ _ (compareOp CmpOp.GtE (Value.int _ _) (Value.int _ _)) _ _ _); refine ge_int ?_)
  | ((with_reducible show wpAny _ _ (compareOp CmpOp.LtE (Value.int _ _) (Value.int _ _)) _ _ _); refine le_int ?_)
  | ((with_reducible show wpAny _ _ (compareOp CmpOp.NotEq (Value.int _ _) (Value.int _ _)) _ _ _); refine ne_int ?_)
  | ((with_reducible show wpAny _ _ (compareOp CmpOp.Eq (Value.int _ _) (Value.int _ _)) _ _ _); refine o_eq ?_)
  | ((with_reducible show wpAny _ _ (compareOp CmpOp.Eq (Value.str _ _) (Value.str _ _)) _ _ _); refine eq_str ?_)
  | ((with_reducible show Then _ _ _ _ _ _ Flow.next _); refine then_next ?_)
  | ((with_reducible show Then _ _ _ _ _ _ (Flow.ret _) _); refine then_ret ?_)
  | ((with_reducible show Then _ _ _ _ _ _ Flow.brk _); refine then_brk ?_)
  | ((with_reducible show wpAny _ _ (execs [] _) _ _ _); refine xs_nil ?_)
  | ((with_reducible show Fin _ (Flow.ret _) _); refine Fin.ret ?_))
local macro_rules | `(tactic| walk_at "gl") => `(tactic| first | exact gl_ws _ | exact gl_piece _ | exact gl_column _ | exact gl_caller _ | exact gl_entry _ | exact gl_due _ | exact gl_first _ | exact gl_sums _ | exact gl_hold _ | exact gl_counts _ | exact gl_back _ | exact gl_one _ | exact gl_addf _ | exact gl_addc _ | exact gl_cc _)
local macro_rules | `(tactic| walk_at "bn") => `(tactic| first | exact bn_len _ | exact bn_range _ | exact bn_max _ | exact bn_sum _ | exact bn_sorted _ | exact bn_isi _ | exact bn_tuple _ | exact bn_zip _ | exact bn_list _)
local macro_rules | `(tactic| walk_at "bv") => `(tactic| first | exact boot_len | exact boot_range | exact boot_max | exact boot_sum | exact boot_sorted | exact boot_isinstance | exact boot_tuple | exact boot_zip | exact boot_list)
local macro_rules | `(tactic| walk_at "kp") => `(tactic| first | exact kp_ws _ | exact kp_piece _ | exact kp_column _ | exact kp_caller _ | exact kp_entry _ | exact kp_due _ | exact kp_first _ | exact kp_sums _ | exact kp_hold _ | exact kp_counts _ | exact kp_back _ | exact kp_one _ | exact kp_addf _ | exact kp_addc _ | exact kp_cc _ | exact kp_lon _ | exact kp_ind _ | exact kp_equ _ | exact kp_wit _ | exact kp_les _)
local macro_rules | `(tactic| walk_at "len") => `(tactic| (simp only [Str.length_append, len_sp, len_tab, sizeLine_eq, Str.length, ← Array.length_toList, mul_sp, cat_list, tab_list, List.length_append, List.length_cons, List.length_nil, List.length_replicate]; omega))
local macro_rules | `(tactic| walk_at "rep") => `(tactic| exact mulOk_of 1 1000 (Nat.le_refl _) (by omega) (by omega) (by decide) (by decide))
local macro_rules | `(tactic| walk_at "eb") => `(tactic| first | walk_at "ev" | ((with_reducible show Br _ _ _ _ _ _ _ _ _ _); refine ⟨fun hc => ?_, fun hc => ?_⟩))
noncomputable def fdCaller : FuncData := fdGet 129 rfl
noncomputable def fdColumn : FuncData := fdGet 122 rfl
noncomputable def fdPiece : FuncData := fdGet 115 rfl

def Cal (tot : Int) (k : Heap) (v : Value) (len cnt : Int) : Prop :=
  if tot.fmod 2 = 0 then ∃ t, v = .int cnt t else ∃ a t1 t2 t3 n, v = .ref a ∧ k.get? a = some { cls := .type "tuple", data := .seq [.int cnt t1, .int (cnt * len) t2, .int (cnt * (len.fdiv 2 + 1) * 2) t3].toArray n }

theorem caller_spec {w : World} {R : Shared → Shared → Prop} {s : Shared} {k : Heap} {A : Around} {len cnt tot : Int} {t1 t2 t3 : Tok} (hR : Rel w R) (C : Cx w k s) (a : Ar A 1)
    (hl : 0 ≤ len ∧ len ≤ 1000) (hc : 0 ≤ cnt ∧ cnt ≤ 1000) :
    wpAny (model Pr w) A (call (.ref 129) [.int len t1, .int cnt t2, .int tot t3]) (Ret R s k (fun k' v => Cal tot k' v len cnt)) (fun _ _ => False) s := by
  refine enter (fd := fdCaller) (binds := [("length", .int len t1), ("count", .int cnt t2), ("total", .int tot t3)]) hR C a rfl rfl rfl (BindsTo.of_eq rfl) (by decide) (locs rfl) (fun A' L s₁ a' F => ?_)
  repeat' walk_at "eb"
  · rename Fm _ _ _ _ _ _ _ _ _ => F
    refine Ret.of F ?_
    rename (_ == _) = true => q
    unfold Cal
    rw [if_pos (by simpa using q)]
    exact ⟨_, rfl⟩
  · rename Fm _ _ _ _ _ _ _ _ _ => F
    rename (_ == _) = false => q
    refine o_tuple F (by exact Nat.le_of_ble_eq_true rfl) fun d s' F => Fin.ret ?_
    obtain ⟨k', hs, hd, F⟩ := F.freeze
    refine Ret.of F ?_
    unfold Cal
    rw [if_neg (by simpa using q)]
    exact ⟨d, _, _, _, 0, rfl, hd⟩

def colS (size : Int) (at_ : Int) (c : Nat) : Int := if c = 9 then at_ - at_.fmod size + size else at_ + 1
def colF (size : Int) (l : List Nat) (at_ : Int) : Int := l.foldl (colS size) at_
theorem foldl_take {α β : Type} (f : β → α → β) (b : β) (l : Array α) {i : Nat} {c : α} (h : l[i]? = some c) : (l.toList.take (i + 1)).foldl f b = f ((l.toList.take i).foldl f b) c := by
  have h' : l.toList[i]? = some c := by simpa using h
  rw [List.take_add_one, h', Option.toList_some, List.foldl_append]; rfl

theorem column_spec {w : World} {R : Shared → Shared → Prop} {s : Shared} {k : Heap} {A : Around} {y : Str} {size : Int} {t1 t2 : Tok} (hR : Rel w R) (C : Cx w k s) (a : Ar A 1) (hs : 1 ≤ size) :
    wpAny (model Pr w) A (call (.ref 122) [.str y t1, .int size t2]) (Ret R s k (fun k' v => ∃ t, v = .int (colF size y.cps.toList 0) t)) (fun _ _ => False) s := by
  refine enter (fd := fdColumn) (binds := [("text", .str y t1), ("size", .int size t2)]) hR C a rfl rfl rfl (BindsTo.of_eq rfl) (by decide) (locs rfl) (fun A' L s₁ a' F => ?_)
  repeat' walk_at "eb"
  rename Fm _ _ _ _ _ _ _ _ _ => F
  refine loop_str F a'.hd (fun i m k' mu => k' = k ∧ mu = [] ∧ m "size" = some (.int size t2) ∧ ∃ t, m "at" = some (.int (colF size (y.cps.toList.take i) 0) t)) ⟨rfl, rfl, by walk_at "lk", _, up_same⟩ ?_ ?_
  · rintro i c u I o' m k' mu' s hc hsub ⟨rfl, rfl, hsz, t, hat⟩ F
    repeat' walk_at "eb"
    · rename Fm _ _ _ _ _ _ _ _ _ => F
      rename (_ == _) = true => q
      refine turn_next F hsub ⟨rfl, rfl, by walk_at "lk", hasI (by walk_at "lk") ?_⟩
      rw [tab_is, sign_eq] at q
      rw [show colF size (y.cps.toList.take (i + 1)) 0 = colS size (colF size (y.cps.toList.take i) 0) c from foldl_take _ _ _ hc, colS, if_pos (by simpa using q)]
    · rename Fm _ _ _ _ _ _ _ _ _ => F
      rename (_ == _) = false => q
      refine turn_next F hsub ⟨rfl, rfl, by walk_at "lk", hasI (by walk_at "lk") ?_⟩
      rw [tab_is, sign_eq] at q
      rw [show colF size (y.cps.toList.take (i + 1)) 0 = colS size (colF size (y.cps.toList.take i) 0) c from foldl_take _ _ _ hc, colS, if_neg (by simpa using q)]
  · rintro m k' mu' s ⟨rfl, rfl, hsz, t, hat⟩ hsub F
    repeat' walk_at "eb"
    rename Fm _ _ _ _ _ _ _ _ _ => F
    refine Ret.of F ⟨t, ?_⟩
    rw [← Array.length_toList, List.take_length]

def encR (runs : List Nat) : List Nat := runs.flatMap fun r => List.replicate r 32 ++ [9]
def pieceR (v : Int) : List Nat := (v.fmod 4).toNat :: if (v.fdiv 4).fmod 2 = 1 then [((v.fdiv 8).fmod 5).toNat] else []
theorem piece_spec {w : World} {R : Shared → Shared → Prop} {s : Shared} {k : Heap} {A : Around} {v : Int} {t1 : Tok} (hR : Rel w R) (C : Cx w k s) (a : Ar A 1) :
    wpAny (model Pr w) A (call (.ref 115) [.int v t1]) (Ret R s k (fun k' r => ∃ y t, r = .str y t ∧ y.cps.toList = encR (pieceR v))) (fun _ _ => False) s := by
  refine enter (fd := fdPiece) (binds := [("v", .int v t1)]) hR C a rfl rfl rfl (BindsTo.of_eq rfl) (by decide) (locs rfl) (fun A' L s₁ a' F => ?_)
  have h4 : 0 ≤ v.fmod 4 ∧ v.fmod 4 < 4 := ⟨Int.fmod_nonneg_of_pos _ (by decide), Int.fmod_lt_of_pos _ (by decide)⟩
  have h5 : 0 ≤ (v.fdiv 8).fmod 5 ∧ (v.fdiv 8).fmod 5 < 5 := ⟨Int.fmod_nonneg_of_pos _ (by decide), Int.fmod_lt_of_pos _ (by decide)⟩
  repeat' walk_at "eb"
  · rename Fm _ _ _ _ _ _ _ _ _ => F
    rename (_ == _) = true => q
    refine Ret.of F ⟨_, _, rfl, ?_⟩
    simp only [cat_list, mul_sp, tab_list, pieceR, if_pos (show (v.fdiv 4).fmod 2 = 1 by simpa using q), encR, List.flatMap_cons, List.flatMap_nil, List.append_nil, List.append_assoc]
  · rename Fm _ _ _ _ _ _ _ _ _ => F
    rename (_ == _) = false => q
    refine Ret.of F ⟨_, _, rfl, ?_⟩
    simp only [cat_list, mul_sp, tab_list, pieceR, if_neg (show ¬ (v.fdiv 4).fmod 2 = 1 by simpa using q), encR, List.flatMap_cons, List.flatMap_nil, List.append_nil, List.append_assoc]
noncomputable def fdInit : FuncData := fdGet 59 rfl
abbrev WsSt := List Int × Int × Int × Int
def wsS (st : WsSt) (c : Nat) : WsSt :=
  if c = 32 then (st.1, st.2.1 + 1, st.2.2.1 + 1, st.2.2.2)
  else
    let cnt := if st.2.1 ≥ (st.1.length : Int) then st.1 ++ List.replicate (st.2.1 - st.1.length + 1).toNat 0 else st.1
    (cnt.set st.2.1.toNat (cnt.getD st.2.1.toNat 0 + 1), 0, st.2.2.1 + 1, st.2.2.2 + 1)
def wsF (l : List Nat) : WsSt := l.foldl wsS ([], 0, 0, 0)

def WsAt (k : Heap) (v : Value) (st : WsSt) : Prop := ∃ x nm ct vs t1 t2 t3 y ty,
  v = .ref x ∧ InsAt k x [("raw", .str y ty), ("n", .int st.2.2.1 t1), ("nt", .int st.2.2.2 t2), ("norm", .ref nm), ("is_simple", .bool (decide ((st.1.length : Int) ≤ 1)))] ∧
  IsTup k nm [.ref ct, .int st.2.1 t3].toArray ∧ IsTup k ct vs.toArray ∧ IntsAre vs st.1
theorem WsAt.mono {k k' : Heap} {v : Value} {st : WsSt} (h : WsAt k v st) (hs : Sub k k') : WsAt k' v st :=
  let ⟨x, nm, ct, vs, t1, t2, t3, y, ty, a, b, c, d, e⟩ := h; ⟨x, nm, ct, vs, t1, t2, t3, y, ty, a, b.mono hs, IsTup.mono c hs, IsTup.mono d hs, e⟩

theorem enter_ws {w : World} {R : Shared → Shared → Prop} {s : Shared} {k : Heap} {A : Around} {n : Nat} {v : Value} {Q : Value → Shared → Prop} {body : List Stmt} (hR : Rel w R) (C : Cx w k s) (a : Ar A (n + 2)) (hb : fdInit.body = .stmts body)
    (h : ∀ A' L x dx s₁, Ar A' n → Fm w R s k L (fun y => List.lookup y [("ws", v), ("self", .ref x)]) k [(dx, dictOf [] 0), (x, instObj 104 dx)] s₁ →
      wpAny (model Pr w) A' (execs body (callEnv fdInit L 59)) (Fin (fun r s' => r = .none ∧ Q (.ref x) s')) (fun _ _ => False) s₁) :
    wpAny (model Pr w) A (call (.ref 104) [v]) Q (fun _ _ => False) s := by
  obtain ⟨mg, mb, T⟩ := C.g.T
  obtain ⟨hh, g, d, t, os⟩ := s
  have nl : ((hh.push emptyDict).push (instObj 104 hh.objs.size)).NoLimit := (T.nolimit.push _).push _
  have keep : Sub hh ((hh.push emptyDict).push (instObj 104 hh.objs.size)) := fun b o e => Heap.get?_push_of_some _ (Heap.get?_push_of_some _ e)
  refine wpAny_call (make_core (h := hh) (makes_of C.g.X (C := 104) rfl) (looks_findIn C.g.X (show findIn (KK w) (.ref 104) "__init__" = some (some (.ref 59)) from rfl)) (fun self => bind_fn C.g.X self rfl) (.inl rfl) ?_)
  refine codeAny_call_def (fd := fdInit) (body := body) (binds := [("self", .ref (hh.objs.size + 1)), ("ws", v)]) ?_ (keep _ _ (C.g.X _ _ (show (KK w).lookup 59 = some ⟨.type "function", none, .func fdInit, #[]⟩ from rfl))) rfl nl (codeRec_of (C.g.X.keeps keep) rfl) hb (BindsTo.of_eq rfl) (by decide) (locs rfl) (fun h₀ hns hk₀ => ?_) rfl rfl rfl
  · have := a.dp; show A.depth + 1 < recursionLimit; omega
  have sz : ((hh.push emptyDict).push (instObj 104 hh.objs.size)).objs.size = hh.objs.size + 2 := by rw [Heap.size_push, Heap.size_push]
  have g1 : ((hh.push emptyDict).push (instObj 104 hh.objs.size)).get? hh.objs.size = some emptyDict := Heap.get?_push_of_some _ (Heap.get?_push_size _ rfl)
  have g2 : ((hh.push emptyDict).push (instObj 104 hh.objs.size)).get? (hh.objs.size + 1) = some (instObj 104 hh.objs.size) := by
    have : ((hh.push emptyDict).push (instObj 104 hh.objs.size)).get? (hh.push emptyDict).objs.size = some (instObj 104 hh.objs.size) := Heap.get?_push_size _ rfl
    rwa [Heap.size_push] at this
  have kn : ∀ b, hh.objs.size ≤ b → k.get? b = none := fun b hb => by
    cases q : k.get? b with
    | none => rfl
    | some o => exact absurd (Heap.lt_size (C.sub _ _ q)) (Nat.not_lt.mpr hb)
  have F : Fm w R ⟨hh, g, d, t, os⟩ k ((hh.push emptyDict).push (instObj 104 hh.objs.size)).objs.size (fun y => List.lookup y [("ws", v), ("self", .ref (hh.objs.size + 1))]) k [(hh.objs.size, dictOf [] 0), (hh.objs.size + 1, instObj 104 hh.objs.size)] ⟨h₀, g, d, t + 2, os⟩ := by
    refine ⟨hR, C.g, hns, hR.keeps ⟨h₀, _, rfl, fun b o e => hk₀ b o (keep b o e)⟩, ?_, fun b o e => hk₀ b o (keep b o (C.sub b o e)), Sub.refl k, fun _ _ e => .inl e, ?_, C.kP, fun p hp => ?_, ?_⟩
    · rw [sz]; show hh.objs.size ≤ _; omega
    · rw [sz]; exact kn _ (by omega)
    · rcases List.mem_cons.mp hp with rfl | hp
      · exact ⟨hk₀ _ _ g1, by rw [sz]; show hh.objs.size ≠ _; omega, kn _ (Nat.le_refl _), Nat.le_refl _⟩
      · rcases List.mem_cons.mp hp with rfl | hp
        · exact ⟨hk₀ _ _ g2, by rw [sz]; show hh.objs.size + 1 ≠ _; omega, kn _ (Nat.le_succ _), Nat.le_succ _⟩
        · cases hp
    · simp
  have a' : Ar ((A.under (.builtin "type.__call__" ⟨.ref 104 :: [v], []⟩)).deeper (callEnv fdInit ((hh.push emptyDict).push (instObj 104 hh.objs.size)).objs.size 59)) n := by
    refine ⟨a.hd, ?_, ?_⟩
    · have := a.dp; show A.depth + 1 + 1 + n < recursionLimit; omega
    · have := a.un; show A.units + 1 + 3 + 20 * n + 20 < cLine; omega
  refine wpAny_mono (h _ _ _ _ _ a' F) (fun fl s' q => ?_) fun _ _ x => x.elim
  exact q

theorem wsF_inv : ∀ (l : List Nat) (st : WsSt) (n : Nat), 0 ≤ st.2.1 → st.2.1 ≤ n → st.1.length ≤ n → 0 ≤ (l.foldl wsS st).2.1 ∧ (l.foldl wsS st).2.1 ≤ ((n + l.length : Nat) : Int) ∧ (l.foldl wsS st).1.length ≤ n + l.length
  | [], st, n, h0, h1, h2 => ⟨h0, by simpa using h1, by simpa using h2⟩
  | c :: l, st, n, h0, h1, h2 => by
    have q : 0 ≤ (wsS st c).2.1 ∧ (wsS st c).2.1 ≤ ((n + 1 : Nat) : Int) ∧ (wsS st c).1.length ≤ n + 1 := by
      unfold wsS
      split
      · exact ⟨by dsimp only; omega, by dsimp only; omega, by dsimp only; omega⟩
      · refine ⟨by dsimp only; omega, by dsimp only; omega, ?_⟩
        dsimp only
        rw [List.length_set]
        split
        · rw [List.length_append, List.length_replicate]; omega
        · omega
    have := wsF_inv l (wsS st c) (n + 1) q.1 q.2.1 q.2.2
    rw [List.foldl_cons, List.length_cons]
    refine ⟨this.1, ?_, ?_⟩
    · have := this.2.1; push_cast at this ⊢; omega
    · have := this.2.2; omega
theorem wsF_bnd (l : List Nat) : 0 ≤ (wsF l).2.1 ∧ (wsF l).2.1 ≤ (l.length : Int) ∧ (wsF l).1.length ≤ l.length := by
  have := wsF_inv l ([], 0, 0, 0) 0 (by decide) (by decide) (by decide)
  simpa [wsF] using this
theorem wsF_take {l : List Nat} {i : Nat} {c : Nat} (h : l[i]? = some c) : wsF (l.take (i + 1)) = wsS (wsF (l.take i)) c := by
  unfold wsF
  rw [List.take_add_one, h, Option.toList_some, List.foldl_append]; rfl
theorem at_lt {l : List Nat} {i c : Nat} (h : (l ++ [120])[i]? = some c) (hn : c ≠ 120) : i < l.length ∧ l[i]? = some c := by
  rcases Nat.lt_or_ge i l.length with q | q
  · exact ⟨q, by rwa [List.getElem?_append_left q] at h⟩
  · rw [List.getElem?_append_right q] at h
    rcases Nat.eq_zero_or_pos (i - l.length) with e | e
    · rw [e] at h; simp at h; exact absurd h.symm hn
    · rw [List.getElem?_eq_none (by simp; omega)] at h; cases h
theorem ints_rep (t : Tok) (i : Int) : ∀ n : Nat, IntsAre (List.replicate n (.int i t)) (List.replicate n i)
  | 0 => .nil
  | n + 1 => .cons i t (ints_rep t i n)
theorem ints_set : ∀ {vs : List Value} {ns : List Int} (j : Nat) (i : Int) (t : Tok), IntsAre vs ns → IntsAre (vs.set j (.int i t)) (ns.set j i)
  | _, _, _, _, _, .nil => .nil
  | _, _, 0, i, t, .cons _ _ h => .cons _ _ h
  | _, _, j + 1, i, t, .cons _ _ h => .cons _ _ (ints_set j i t h)
theorem ints_at {vs : List Value} {ns : List Int} (h : IntsAre vs ns) {j : Nat} (hj : j < ns.length) : ∃ t, vs[j]? = some (.int (ns.getD j 0) t) := by
  obtain ⟨t, q⟩ := h.get j ns[j] (by simp [hj])
  exact ⟨t, by rw [q, List.getD_eq_getElem?_getD, List.getElem?_eq_getElem hj]; rfl⟩
set_option maxHeartbeats 4000000 in
theorem ws_spec {w : World} {R : Shared → Shared → Prop} {s : Shared} {k : Heap} {A : Around} {y : Str} {t : Tok} {l : List Nat} (hR : Rel w R) (C : Cx w k s) (a : Ar A 2) (hy : y.cps.toList = l ++ [120]) (hl : ∀ c ∈ l, c = 32 ∨ c = 9) (hz : l.length ≤ 1000) :
    wpAny (model Pr w) A (call (.ref 104) [.str y t]) (Ret R s k (fun k' v => WsAt k' v (wsF l))) (fun _ _ => False) s := by
  refine enter_ws hR C a rfl fun A' L x dx s₁ a' F => ?_
  repeat' walk_at "ev"
  rename Fm _ _ _ _ _ _ _ _ _ => F
  refine x_setattr F (List.Mem.head _) (l := []) trivial (tk_raw w) rfl (by decide) fun es n' s' hD F => ?_
  repeat' walk_at "ev"
  rename Fm _ _ _ _ _ _ _ _ _ => F
  refine g_cls F (ws_S w) rfl fun s' F => ?_
  repeat' walk_at "ev"
  rename Fm _ _ _ _ _ _ _ _ _ => F
  refine g_cls F (ws_T w) rfl fun s' F => ?_
  repeat' walk_at "ev"
  rename Fm _ _ _ _ _ _ _ _ _ => F
  refine o_tuple F (by exact Nat.le_of_ble_eq_true rfl) fun d s' F => ?_
  refine unpack2 F ((isT_mk _ 0).at (F.mt _ (.head _)).1) a'.hd rfl fun s' F => ?_
  have F := F.drop
  refine io_cons ?_
  repeat' walk_at "ev"
  refine io_cons ?_
  repeat' walk_at "ev"
  refine io_nil ?_
  repeat' walk_at "ev"
  rename Fm _ _ _ _ _ _ _ _ _ => F
  refine o_list F (by exact Nat.le_of_ble_eq_true rfl) fun d s' F => ?_
  repeat' walk_at "ev"
  rename Fm _ _ _ _ _ _ _ _ _ => F
  refine g_attr F ⟨dx, es, n', F.at2, F.at1, hD⟩ (ws_raw w) rfl rfl fun s' F => ?_
  refine loop_str F a'.hd (fun i m k' mu => i ≤ l.length ∧ k' = k ∧ ∃ dc oc vs, mu = [(dc, oc), (dx, dictOf es n'), (x, instObj 104 dx)] ∧ IsL oc vs ∧ IntsAre vs (wsF (l.take i)).1 ∧ m "self" = some (.ref x) ∧ m "S" = some (.str " " 249) ∧ m "T" = some (.str "\t" 250) ∧
    m "count" = some (.ref dc) ∧ (∃ t, m "b" = some (.int (wsF (l.take i)).2.1 t)) ∧ (∃ t, m "n" = some (.int (wsF (l.take i)).2.2.1 t)) ∧ ∃ t, m "nt" = some (.int (wsF (l.take i)).2.2.2 t))
    ⟨Nat.zero_le _, rfl, d, _, [], rfl, isL_mk _ 0, .nil, by walk_at "lk", by walk_at "lk", by walk_at "lk", by walk_at "lk", hasI (by walk_at "lk") rfl, hasI (by walk_at "lk") rfl, hasI (by walk_at "lk") rfl⟩ ?_ ?_
  · rintro i c u I o' m k' mu' s1 hc hsub ⟨hi, rfl, dc, oc, vs, rfl, hL, hI, hself, hS, hT, hcount, ⟨tb, hb⟩, ⟨tn, hn⟩, tnt, hnt⟩ F
    have bnd := wsF_bnd (l.take i)
    have hlen : (l.take i).length ≤ 1000 := by rw [List.length_take]; omega
    have hc' : (l ++ [120])[i]? = some c := by rw [← hy]; simpa using hc
    repeat' walk_at "ev"
    refine ⟨fun q => ?_, fun q0 => ?_⟩
    · rw [show Str.ofString " " = ⟨#[32]⟩ from sp_is, sign_eq] at q
      have q := beq_iff_eq.mp q
      subst q
      obtain ⟨h1, h2⟩ := at_lt hc' (by decide)
      have e := wsF_take h2
      rw [wsS, if_pos rfl] at e
      repeat' walk_at "ev"
      rename Fm _ _ _ _ _ _ _ _ _ => F
      refine turn_next F hsub ⟨h1, rfl, dc, oc, vs, rfl, hL, by rw [e]; exact hI, by walk_at "lk", by walk_at "lk", by walk_at "lk", by walk_at "lk", hasI (by walk_at "lk") (by rw [e]), hasI (by walk_at "lk") (by rw [e]), hasI (by walk_at "lk") (by rw [e])⟩
    repeat' walk_at "ev"
    refine ⟨fun q => ?_, fun q => ?_⟩
    · rw [show Str.ofString "\t" = ⟨#[9]⟩ from tab_is, sign_eq] at q
      have q := beq_iff_eq.mp q
      subst q
      obtain ⟨h1, h2⟩ := at_lt hc' (by decide)
      have e := wsF_take h2
      rw [wsS, if_neg (by decide)] at e
      have hlv := hI.length
      generalize hst : wsF (l.take i) = st at *
      repeat' walk_at "ev"
      rename Fm _ _ _ _ _ _ _ _ _ => F
      refine c_len F (hL.at F.at0) (by omega) fun t' s' F => ?_
      repeat' walk_at "ev"
      refine Br.join (fun s' => ∃ dq oq vs' m', Fm w R s k' L m' k' [(dq, oq), (dx, dictOf es n'), (x, instObj 104 dx), (I, o')] s' ∧ IsL oq vs' ∧ IntsAre vs' (if st.2.1 ≥ (st.1.length : Int) then st.1 ++ List.replicate (st.2.1 - st.1.length + 1).toNat 0 else st.1) ∧ m' "count" = some (.ref dq) ∧
        m' "self" = some (.ref x) ∧ m' "S" = some (.str " " 249) ∧ m' "T" = some (.str "\t" 250) ∧ m' "b" = some (.int st.2.1 tb) ∧ (∃ t, m' "n" = some (.int (st.2.2.1 + 1) t)) ∧ ∃ t, m' "nt" = some (.int (st.2.2.2 + 1) t)) (fun q => ?_) (fun q => ?_) ?_
      · have q := of_decide_eq_true q
        repeat' walk_at "ev"
        rename Fm _ _ _ _ _ _ _ _ _ => F
        refine o_list F (by exact Nat.le_of_ble_eq_true rfl) fun d0 s' F => ?_
        repeat' walk_at "ev"
        rename Fm _ _ _ _ _ _ _ _ _ => F
        refine c_len F (hL.at F.at1) (by omega) fun t' s' F => ?_
        repeat' walk_at "ev"
        rename Fm _ _ _ _ _ _ _ _ _ => F
        refine o_lmul1 F F.at0 (by omega) (by omega) fun d1 s' F => ?_
        refine o_ladd F (hL.at F.at2) ((isL_mk _ 0).at F.at0) (by rw [List.length_replicate, sizeLine_eq]; omega) fun d2 s' F => ?_
        have F := F.drop1.drop1.drop1
        repeat' walk_at "ev"
        rename Fm _ _ _ _ _ _ _ _ _ => F
        refine ⟨rfl, d2, _, _, _, F, isL_mk _ 0, ?_, by walk_at "lk", by walk_at "lk", by walk_at "lk", by walk_at "lk", by walk_at "lk", ⟨_, by walk_at "lk"⟩, ⟨_, by walk_at "lk"⟩⟩
        rw [if_pos (by omega), ← hlv]
        exact hI.append (ints_rep _ _ _)
      · have q := of_decide_eq_false q
        repeat' walk_at "ev"
        rename Fm _ _ _ _ _ _ _ _ _ => F
        refine ⟨rfl, dc, oc, vs, _, F, hL, ?_, by walk_at "lk", by walk_at "lk", by walk_at "lk", by walk_at "lk", by walk_at "lk", ⟨_, by walk_at "lk"⟩, ⟨_, by walk_at "lk"⟩⟩
        rw [if_neg (by omega)]; exact hI
      · rintro s' ⟨dq, oq, vs', m', F, hL', hI', hcount', hself', hS', hT', hb', ⟨tn', hn'⟩, tnt', hnt'⟩
        dsimp only at e
        generalize hcn : (if st.2.1 ≥ (st.1.length : Int) then st.1 ++ List.replicate (st.2.1 - st.1.length + 1).toNat 0 else st.1) = cn at *
        have hbl : st.2.1.toNat < cn.length := by
          rw [← hcn]; split
          · rw [List.length_append, List.length_replicate]; omega
          · omega
        obtain ⟨tq, hq⟩ := ints_at hI' hbl
        repeat' walk_at "ev"
        rename Fm _ _ _ _ _ _ _ _ _ => F
        refine o_getL (hL'.at F.at0) (by omega) (by omega) hq ?_
        repeat' walk_at "ev"
        rename Fm _ _ _ _ _ _ _ _ _ => F
        refine o_setL F hL' (by omega) (by omega) (by rw [hI'.length]; exact hbl) fun o2 s' hL2 F => ?_
        repeat' walk_at "ev"
        rename Fm _ _ _ _ _ _ _ _ _ => F
        refine turn_next (mu := [(dq, o2), (dx, dictOf es n'), (x, instObj 104 dx)]) F hsub ⟨h1, rfl, dq, o2, _, rfl, hL2, by rw [e]; exact ints_set _ _ _ hI', by walk_at "lk", by walk_at "lk", by walk_at "lk", by walk_at "lk", hasI (by walk_at "lk") (by rw [e]), hasI (by walk_at "lk") (by rw [e]), hasI (by walk_at "lk") (by rw [e])⟩
    · have hci : i = l.length := by
        rcases Nat.lt_or_ge i l.length with h | h
        · rw [List.getElem?_append_left h] at hc'
          rw [show Str.ofString " " = ⟨#[32]⟩ from sp_is, sign_eq] at q0
          rw [show Str.ofString "\t" = ⟨#[9]⟩ from tab_is, sign_eq] at q
          rcases hl c (List.mem_of_getElem? hc') with h | h
          · subst h; simp at q0
          · subst h; simp at q
        · omega
      rw [hci, List.take_length] at bnd hI hb hn hnt
      have hlv := hI.length
      repeat' walk_at "ev"
      refine turn_brk ?_
      repeat' walk_at "ev"
      rename Fm _ _ _ _ _ _ _ _ _ => F
      have F : Fm w R s k' L _ k' [(dx, dictOf es n'), (dc, oc), (x, instObj 104 dx), (I, o')] _ := F.swap
      refine x_setattr F (.tail _ (.head _)) hD (tk_n w) rfl (by simp) fun es2 n2 s' hD F => ?_
      repeat' walk_at "ev"
      rename Fm _ _ _ _ _ _ _ _ _ => F
      refine x_setattr F (.tail _ (.head _)) hD (tk_nt w) rfl (by simp) fun es2 n2 s' hD F => ?_
      repeat' walk_at "ev"
      rename Fm _ _ _ _ _ _ _ _ _ => F
      refine c_tupleL F (hL.at F.at1) (by rw [sizeLine_eq]; omega) fun dt s' F => ?_
      repeat' walk_at "ev"
      rename Fm _ _ _ _ _ _ _ _ _ => F
      refine o_tuple F (by exact Nat.le_of_ble_eq_true rfl) fun dn s' F => ?_
      obtain ⟨k1, hs1, hk1, F⟩ := F.freeze
      obtain ⟨k2, hs2, hk2, F⟩ := F.freeze
      repeat' walk_at "ev"
      rename Fm _ _ _ _ _ _ _ _ _ => F
      refine x_setattr F (.tail _ (.head _)) hD (tk_norm w) rfl (by simp) fun es2 n2 s' hD F => ?_
      repeat' walk_at "ev"
      rename Fm _ _ _ _ _ _ _ _ _ => F
      refine c_len F (hL.at F.at1) (by omega) fun t' s' F => ?_
      repeat' walk_at "ev"
      rename Fm _ _ _ _ _ _ _ _ _ => F
      refine x_setattr F (.tail _ (.head _)) hD (tk_simple w) rfl (by simp) fun es2 n2 s' hD F => ?_
      repeat' walk_at "ev"
      refine Fin.next ⟨rfl, ?_⟩
      have F := F.drop1
      obtain ⟨k3, hs3, hk3, F⟩ := F.freeze
      obtain ⟨k4, hs4, hk4, F⟩ := F.freeze
      refine Ret.of F ⟨x, dn, dt, vs, tn, tnt, tb, y, t, rfl, ⟨dx, es2, n2, hk4, hs4 _ _ hk3, ?_⟩, IsTup.mono ((isT_mk _ 0).at hk1) (hs2.trans (hs3.trans hs4)), IsTup.mono ((isT_mk _ 0).at hk2) (hs3.trans hs4), hI⟩
      rw [hlv] at hD
      exact hD
  · rintro m k' mu' s ⟨hi, _⟩
    have : y.cps.size = l.length + 1 := by rw [← Array.length_toList, hy]; simp
    omega
noncomputable def fdLon : FuncData := fdGet 66 rfl
noncomputable def fdInd : FuncData := fdGet 73 rfl
section
variable {w : World} {R : Shared → Shared → Prop} {s₀ s s' : Shared} {L : Addr} {m m' : Str → Option Value} {k₀ k k' : Heap} {mu mu' : List (Addr × Obj)} {A : Around} {E : Value → Shared → Prop} {env : Env}
theorem c_max2 {a b : Int} {t u : Tok} {Q : Value → Shared → Prop} (F : Fm w R s₀ k₀ L m k mu s) (hh : A.handled = none) (h : ∀ t s', Fm w R s₀ k₀ L m k mu s' → Q (.int (max a b) t) s') : wpAny (model Pr w) A (call (.builtin "max") [.int a t, .int b u]) Q E s := by
  obtain ⟨ot, hot, N⟩ := F.news
  refine max_two_N hh F.fr N fun h' tk F' N' => ?_
  have e : (if b > a then b else a) = max a b := by rw [Int.max_def]; split <;> split <;> omega
  rw [e]
  exact h _ _ (F.same hot F' N')
end
theorem retI {a b : Int} {u : Tok} (e : a = b) : ∃ t, Value.int a u = .int b t := ⟨u, by rw [e]⟩
theorem lon_spec {w : World} {R : Shared → Shared → Prop} {s : Shared} {k : Heap} {A : Around} {v : Value} {st : WsSt} (hR : Rel w R) (C : Cx w k s) (a : Ar A 1) (hw : WsAt k v st) (hz : st.1.length ≤ 10000) :
    wpAny (model Pr w) A (call (.ref 66) [v]) (Ret R s k (fun k' r => ∃ t, r = .int (max ((st.1.length : Int) - 1) st.2.1) t)) (fun _ _ => False) s := by
  obtain ⟨x, nm, ct, vs, t1, t2, t3, y, ty, rfl, hi, hn, hc, hI⟩ := hw
  have hlv := hI.length
  refine enter (fd := fdLon) (binds := [("self", .ref x)]) hR C a rfl rfl rfl (BindsTo.of_eq rfl) (by decide) (locs rfl) (fun A' L s₁ a' F => ?_)
  repeat' walk_at "ev"
  rename Fm _ _ _ _ _ _ _ _ _ => F
  refine g_attr F (hi.mono F.led) (ws_norm w) rfl rfl fun s' F => ?_
  refine x_unpack F (IsTup.mono hn F.led) a'.hd rfl rfl fun s' F => ?_
  refine io_cons ?_
  repeat' walk_at "ev"
  refine io_cons ?_
  repeat' walk_at "ev"
  refine io_nil ?_
  repeat' walk_at "ev"
  rename Fm _ _ _ _ _ _ _ _ _ => F
  refine c_lenT F (IsTup.mono hc F.led) (by omega) fun t s' F => ?_
  repeat' walk_at "ev"
  rename Fm _ _ _ _ _ _ _ _ _ => F
  refine c_max2 F a'.hd fun t s' F => ?_
  repeat' walk_at "ev"
  exact Ret.of F ⟨t, by rw [hlv]⟩

def ilF (ts : Int) (cnt : List Int) : Nat → Int
  | 0 => 0
  | j + 1 => ilF ts cnt j + (ts + (j : Int)).fdiv ts * cnt.getD (ts + (j : Int)).toNat 0
def levW (ts : Int) (st : WsSt) : Int := st.2.1 + ts * (ilF ts st.1 ((st.1.length : Int) - ts).toNat + st.2.2.2)
theorem ind_spec {w : World} {R : Shared → Shared → Prop} {s : Shared} {k : Heap} {A : Around} {v : Value} {st : WsSt} {ts : Int} {tk : Tok} (hR : Rel w R) (C : Cx w k s) (a : Ar A 1) (hw : WsAt k v st) (hz : st.1.length ≤ 10000) (h1 : 1 ≤ ts) (h2 : ts ≤ 10000) :
    wpAny (model Pr w) A (call (.ref 73) [v, .int ts tk]) (Ret R s k (fun k' r => ∃ t, r = .int (levW ts st) t)) (fun _ _ => False) s := by
  obtain ⟨x, nm, ct, vs, t1, t2, t3, y, ty, rfl, hi, hn, hc, hI⟩ := hw
  have hlv := hI.length
  refine enter (fd := fdInd) (binds := [("self", .ref x), ("tabsize", .int ts tk)]) hR C a rfl rfl rfl (BindsTo.of_eq rfl) (by decide) (locs rfl) (fun A' L s₁ a' F => ?_)
  repeat' walk_at "ev"
  rename Fm _ _ _ _ _ _ _ _ _ => F
  refine g_attr F (hi.mono F.led) (ws_norm w) rfl rfl fun s' F => ?_
  refine x_unpack F (IsTup.mono hn F.led) a'.hd rfl rfl fun s' F => ?_
  refine io_cons ?_
  repeat' walk_at "ev"
  refine io_cons ?_
  repeat' walk_at "ev"
  refine io_nil ?_
  repeat' walk_at "ev"
  rename Fm _ _ _ _ _ _ _ _ _ => F
  refine c_lenT F (IsTup.mono hc F.led) (by omega) fun t s' F => ?_
  repeat' walk_at "ev"
  rename Fm _ _ _ _ _ _ _ _ _ => F
  refine c_range2 F fun r v9 s' F => ?_
  refine loop_range F a'.hd (by omega) (by omega) (by omega) (by omega) (fun i m k' mu => k' = k ∧ mu = [] ∧ m "self" = some (.ref x) ∧ m "tabsize" = some (.int ts tk) ∧ m "count" = some (.ref ct) ∧ m "trailing" = some (.int st.2.1 t3) ∧ ∃ t, m "il" = some (.int (ilF ts st.1 i) t))
    ⟨rfl, rfl, by walk_at "lk", by walk_at "lk", by walk_at "lk", by walk_at "lk", hasI (by walk_at "lk") rfl⟩ ?_ ?_
  · rintro i ti I o' m k' mu' s1 hlt hsub ⟨rfl, rfl, hself, hts, hcount, htr, t', hil⟩ F
    obtain ⟨tq, hq⟩ := ints_at hI (j := (ts + (i : Int)).toNat) (by omega)
    have hf : 0 ≤ (ts + (i : Int)).fdiv ts ∧ (ts + (i : Int)).fdiv ts ≤ ts + i := by
      rw [Int.fdiv_eq_ediv_of_nonneg _ (by omega)]
      exact ⟨Int.ediv_nonneg (by omega) (by omega), Int.ediv_le_self _ (by omega)⟩
    repeat' walk_at "ev"
    rename Fm _ _ _ _ _ _ _ _ _ => F
    refine o_getT (IsTup.mono hc F.led) (by omega) (by omega) hq ?_
    repeat' walk_at "ev"
    rename Fm _ _ _ _ _ _ _ _ _ => F
    exact turn_next F hsub ⟨rfl, rfl, by walk_at "lk", by walk_at "lk", by walk_at "lk", by walk_at "lk", hasI (by walk_at "lk") rfl⟩
  · rintro m k' mu' s1 ⟨rfl, rfl, hself, hts, hcount, htr, t', hil⟩ hsub F
    repeat' walk_at "ev"
    rename Fm _ _ _ _ _ _ _ _ _ => F
    refine g_attr F (hi.mono F.led) (ws_nt w) rfl rfl fun s' F => ?_
    repeat' walk_at "ev"
    rename Fm _ _ _ _ _ _ _ _ _ => F
    exact Ret.of F (retI (by rw [hlv]; rfl))
noncomputable def fdEqu : FuncData := fdGet 80 rfl
noncomputable def fdLes : FuncData := fdGet 94 rfl
noncomputable def fdWit : FuncData := fdGet 87 rfl
theorem readsAll_ints {h : Heap} : ∀ {vs : List Value} {ns : List Int}, IntsAre vs ns → ReadsAll h vs (ns.map PyData.int) []
  | _, _, .nil => .nil
  | _, _, .cons i t r => .cons (as := []) (.int i t) (readsAll_ints r)
theorem reads_tup {h : Heap} {l : Addr} {vs : List Value} {xs : List PyData} {as : List Addr} (ht : IsTup h l vs.toArray) (hr : ReadsAll h vs xs as) : Reads h (.ref l) (.tuple xs) as :=
  let ⟨o, e, c, n, d⟩ := ht; reads_tuple_at e c d hr
theorem reads_norm {h : Heap} {nm ct : Addr} {vs : List Value} {ns : List Int} {b : Int} {t : Tok} (hn : IsTup h nm [.ref ct, .int b t].toArray) (hc : IsTup h ct vs.toArray) (hI : IntsAre vs ns) :
    Reads h (.ref nm) (.tuple [.tuple (ns.map PyData.int), .int b]) [] :=
  reads_tup hn (.cons (as := []) (reads_tup hc (readsAll_ints hI)) (.cons (as := []) (.int _ _) .nil))
theorem shaped_norm (ns : List Int) (b : Int) : SeqAt.shaped (.tuple [.tuple (ns.map PyData.int), .int b]) = true := by
  simp [SeqAt.shaped, PyData.canLay0, PyData.canLayAll0, PyData.depth, PyData.depthAll, ke_canLayAll0, ke_depthAll]
theorem eqv_norm (ns ms : List Int) (b c : Int) : PyData.eqv (.tuple [.tuple (ns.map PyData.int), .int b]) (.tuple [.tuple (ms.map PyData.int), .int c]) = decide (ns = ms ∧ b = c) := by
  simp only [PyData.eqv, PyData.eqvAll, ked_eqvAll, Bool.and_true]
  by_cases h : ns = ms <;> by_cases h' : b = c <;> simp [h, h']
theorem Ar.units64 {A : Around} {n : Nat} (a : Ar A (n + 3)) : A.units + 64 < cLine := by have := a.un; omega
theorem equ_spec {w : World} {R : Shared → Shared → Prop} {s : Shared} {k : Heap} {A : Around} {v v' : Value} {st st' : WsSt} (hR : Rel w R) (C : Cx w k s) (a : Ar A 4) (hw : WsAt k v st) (hw' : WsAt k v' st') :
    wpAny (model Pr w) A (call (.ref 80) [v, v']) (Ret R s k (fun k' r => r = .bool (decide (st.1 = st'.1 ∧ st.2.1 = st'.2.1)))) (fun _ _ => False) s := by
  obtain ⟨x, nm, ct, vs, t1, t2, t3, y, ty, rfl, hi, hn, hc, hI⟩ := hw
  obtain ⟨x', nm', ct', vs', t1', t2', t3', y', ty', rfl, hi', hn', hc', hI'⟩ := hw'
  refine enter (fd := fdEqu) (binds := [("self", .ref x), ("other", .ref x')]) hR C a rfl rfl rfl (BindsTo.of_eq rfl) (by decide) (locs rfl) (fun A' L s₁ a' F => ?_)
  repeat' walk_at "ev"
  rename Fm _ _ _ _ _ _ _ _ _ => F
  refine g_attr F (hi.mono F.led) (ws_norm w) rfl rfl fun s' F => ?_
  repeat' walk_at "ev"
  rename Fm _ _ _ _ _ _ _ _ _ => F
  refine g_attr F (hi'.mono F.led) (ws_norm w) rfl rfl fun s' F => ?_
  refine eq_dataH (reads_norm (IsTup.mono hn F.led) (IsTup.mono hc F.led) hI) (reads_norm (IsTup.mono hn' F.led) (IsTup.mono hc' F.led) hI') (shaped_norm _ _) (shaped_norm _ _) a'.units64 ?_
  rw [eqv_norm]
  repeat' walk_at "ev"
  rename Fm _ _ _ _ _ _ _ _ _ => F
  exact Ret.of F rfl

section
variable {w : World} {R : Shared → Shared → Prop} {s₀ s : Shared} {L : Addr} {m : Str → Option Value} {k₀ k : Heap} {mu : List (Addr × Obj)} {A : Around} {E : Value → Shared → Prop} {env : Env}
theorem t_and_false {x y : Expr} {pos : Pos} {whole : Sem Value} {Q : Bool → Shared → Prop} (F : Fm w R s₀ k₀ L m k mu s) (h1 : wpAny (model Pr w) A (PySem.isTrue x env (eval x env)) (fun _ s' => Fm w R s₀ k₀ L m k mu s') E s)
    (h2 : ∀ s', Fm w R s₀ k₀ L m k mu s' → wpAny (model Pr w) A (PySem.isTrue y env (eval y env)) (fun c s'' => c = false ∧ Fm w R s₀ k₀ L m k mu s'') E s') (hq : ∀ s', Fm w R s₀ k₀ L m k mu s' → Q false s') :
    wpAny (model Pr w) A (PySem.isTrue (.BoolOp .And [x, y] pos) env whole) Q E s := by
  refine isTrue_and (wpAny_mono h1 (fun c s' hm => ?_) fun _ _ e => e)
  cases c
  · exact hq s' hm
  · refine isTrue_and (wpAny_mono (h2 s' hm) (fun c s'' ⟨hc, hm'⟩ => ?_) fun _ _ e => e)
    subst hc
    exact hq s'' hm'
end
set_option maxHeartbeats 1000000 in
theorem les_true {w : World} {R : Shared → Shared → Prop} {s : Shared} {k : Heap} {A : Around} {v v' : Value} {st st' : WsSt} (hR : Rel w R) (C : Cx w k s) (a : Ar A 2) (hw : WsAt k v st) (hw' : WsAt k v' st') (hz : st.1.length ≤ 1000) (hz' : st'.1.length ≤ 1000)
    (hb : 0 ≤ st.2.1 ∧ st.2.1 ≤ 1000) (hb' : 0 ≤ st'.2.1 ∧ st'.2.1 ≤ 1000) (hlt : st.2.2.1 < st'.2.2.1) (hns : ¬ (st'.1.length : Int) ≤ 1)
    (hlev : ∀ ts : Int, 2 ≤ ts → levW ts st < levW ts st') :
    wpAny (model Pr w) A (call (.ref 94) [v, v']) (Ret R s k (fun k' r => r = .bool true)) (fun _ _ => False) s := by
  obtain ⟨x, nm, ct, vs, t1, t2, t3, y, ty, rfl, hi, hn, hc, hI⟩ := id hw
  obtain ⟨x', nm', ct', vs', t1', t2', t3', y', ty', rfl, hi', hn', hc', hI'⟩ := id hw'
  refine enter (fd := fdLes) (binds := [("self", .ref x), ("other", .ref x')]) hR C a rfl rfl rfl (BindsTo.of_eq rfl) (by decide) (locs rfl) (fun A' L s₁ a' F => ?_)
  repeat' walk_at "ev"
  rename Fm _ _ _ _ _ _ _ _ _ => F
  refine g_attr F (hi.mono F.led) (ws_n w) rfl rfl fun s' F => ?_
  repeat' walk_at "ev"
  rename Fm _ _ _ _ _ _ _ _ _ => F
  refine g_attr F (hi'.mono F.led) (ws_n w) rfl rfl fun s' F => ?_
  repeat' walk_at "ev"
  refine ⟨fun q => ?_, fun q => ?_⟩
  · exact absurd (of_decide_eq_true q) (by omega)
  repeat' walk_at "ev"
  refine t_and_false F (isTrue_plain ?_) (fun s' F => isTrue_plain ?_) fun s' F => ?_
  · repeat' walk_at "ev"
    rename Fm _ _ _ _ _ _ _ _ _ => F
    refine g_attr F (hi.mono F.led) (ws_simple w) rfl rfl fun s' F => ?_
    repeat' walk_at "ev"
    rename Fm _ _ _ _ _ _ _ _ _ => F
    exact F
  · repeat' walk_at "ev"
    rename Fm _ _ _ _ _ _ _ _ _ => F
    refine g_attr F (hi'.mono F.led) (ws_simple w) rfl rfl fun s' F => ?_
    repeat' walk_at "ev"
    rename Fm _ _ _ _ _ _ _ _ _ => F
    exact ⟨decide_eq_false hns, F⟩
  refine ⟨fun q => Bool.noConfusion q, fun q => ?_⟩
  repeat' walk_at "ev"
  rename Fm _ _ _ _ _ _ _ _ _ => F
  refine g_meth F (hi.mono F.led) (ws_lon w) (isFn_lon w) rfl ?_
  repeat' walk_at "ev"
  rename Fm _ _ _ _ _ _ _ _ _ => F
  refine use_ret F (lon_spec hR F.cx a' hw (by omega)) ?_
  rintro _ k1 s1 hs1 ⟨t, rfl⟩ F
  repeat' walk_at "ev"
  rename Fm _ _ _ _ _ _ _ _ _ => F
  refine g_meth F ((hi'.mono hs1).mono F.led) (ws_lon w) (isFn_lon w) rfl ?_
  repeat' walk_at "ev"
  rename Fm _ _ _ _ _ _ _ _ _ => F
  refine use_ret F (lon_spec hR F.cx a' (hw'.mono hs1) (by omega)) ?_
  rintro _ k2 s2 hs2 ⟨t', rfl⟩ F
  repeat' walk_at "ev"
  rename Fm _ _ _ _ _ _ _ _ _ => F
  refine c_max2 F a'.hd fun t s' F => ?_
  repeat' walk_at "ev"
  rename Fm _ _ _ _ _ _ _ _ _ => F
  refine c_range2 F fun r v9 s' F => ?_
  refine loop_range F a'.hd (by omega) (by omega) (by omega) (by omega) (fun i m k' mu => mu = [] ∧ m "self" = some (.ref x) ∧ m "other" = some (.ref x')) ⟨rfl, by walk_at "lk", by walk_at "lk"⟩ ?_ ?_
  · rintro i ti I o' m k' mu' s1 hlt' hsub ⟨rfl, hself, hother⟩ F
    have hb := hs1.trans (hs2.trans hsub)
    repeat' walk_at "ev"
    rename Fm _ _ _ _ _ _ _ _ _ => F
    refine g_meth F ((hi.mono hb).mono F.led) (ws_ind w) (isFn_ind w) rfl ?_
    repeat' walk_at "ev"
    rename Fm _ _ _ _ _ _ _ _ _ => F
    refine use_ret F (ind_spec hR F.cx a' (hw.mono hb) (by omega) (by omega) (by omega)) ?_
    rintro _ k3 s3 hs3 ⟨t, rfl⟩ F
    repeat' walk_at "ev"
    rename Fm _ _ _ _ _ _ _ _ _ => F
    refine g_meth F ((hi'.mono (hb.trans hs3)).mono F.led) (ws_ind w) (isFn_ind w) rfl ?_
    repeat' walk_at "ev"
    rename Fm _ _ _ _ _ _ _ _ _ => F
    refine use_ret F (ind_spec hR F.cx a' (hw'.mono (hb.trans hs3)) (by omega) (by omega) (by omega)) ?_
    rintro _ k4 s4 hs4 ⟨t', rfl⟩ F
    repeat' walk_at "ev"
    refine ⟨fun q => ?_, fun q => ?_⟩
    · have := hlev (2 + (i : Int)) (by omega)
      exact absurd (of_decide_eq_true q) (by omega)
    repeat' walk_at "ev"
    rename Fm _ _ _ _ _ _ _ _ _ => F
    exact turn_next (mu := []) F (hsub.trans (hs3.trans hs4)) ⟨rfl, by walk_at "lk", by walk_at "lk"⟩
  · rintro m k' mu' s1 ⟨rfl, _, _⟩ hsub F
    repeat' walk_at "ev"
    rename Fm _ _ _ _ _ _ _ _ _ => F
    exact Ret.of F rfl
theorem les_false {w : World} {R : Shared → Shared → Prop} {s : Shared} {k : Heap} {A : Around} {v v' : Value} {st st' : WsSt} (hR : Rel w R) (C : Cx w k s) (a : Ar A 2) (hw : WsAt k v st) (hw' : WsAt k v' st') (hge : st.2.2.1 ≥ st'.2.2.1) :
    wpAny (model Pr w) A (call (.ref 94) [v, v']) (Ret R s k (fun k' r => r = .bool false)) (fun _ _ => False) s := by
  obtain ⟨x, nm, ct, vs, t1, t2, t3, y, ty, rfl, hi, hn, hc, hI⟩ := id hw
  obtain ⟨x', nm', ct', vs', t1', t2', t3', y', ty', rfl, hi', hn', hc', hI'⟩ := id hw'
  refine enter (fd := fdLes) (binds := [("self", .ref x), ("other", .ref x')]) hR C a rfl rfl rfl (BindsTo.of_eq rfl) (by decide) (locs rfl) (fun A' L s₁ a' F => ?_)
  repeat' walk_at "ev"
  rename Fm _ _ _ _ _ _ _ _ _ => F
  refine g_attr F (hi.mono F.led) (ws_n w) rfl rfl fun s' F => ?_
  repeat' walk_at "ev"
  rename Fm _ _ _ _ _ _ _ _ _ => F
  refine g_attr F (hi'.mono F.led) (ws_n w) rfl rfl fun s' F => ?_
  repeat' walk_at "ev"
  refine ⟨fun q => ?_, fun q => ?_⟩
  · repeat' walk_at "ev"
    exact Ret.of F rfl
  · exact absurd hge (by have := of_decide_eq_false q; omega)
def WitAt (k : Heap) (v : Value) (n : Nat) (f g : Int → Int) : Prop := ∃ (l : Addr) (vs : List Value), v = .ref l ∧ k.IsList l vs.toArray ∧ vs.length = n ∧
  ∀ i (h : i < n), ∃ (a : Addr) (t1 t2 t3 : Tok) (items : Array Value), vs[i]? = some (.ref a) ∧ IsTup k a items ∧ items = [.int (1 + (i : Int)) t1, .int (f (1 + i)) t2, .int (g (1 + i)) t3].toArray
set_option maxHeartbeats 1000000 in
theorem wit_spec {w : World} {R : Shared → Shared → Prop} {s : Shared} {k : Heap} {A : Around} {v v' : Value} {st st' : WsSt} (hR : Rel w R) (C : Cx w k s) (a : Ar A 2) (hw : WsAt k v st) (hw' : WsAt k v' st') (hz : st.1.length ≤ 1000) (hz' : st'.1.length ≤ 1000)
    (hb : 0 ≤ st.2.1 ∧ st.2.1 ≤ 1000) (hb' : 0 ≤ st'.2.1 ∧ st'.2.1 ≤ 1000)
    (hlev : ∀ ts : Int, 1 ≤ ts → levW ts st ≠ levW ts st') :
    wpAny (model Pr w) A (call (.ref 87) [v, v']) (Ret R s k (fun k' r => WitAt k' r (max (max ((st.1.length : Int) - 1) st.2.1) (max ((st'.1.length : Int) - 1) st'.2.1) + 1).toNat (fun ts => levW ts st) (fun ts => levW ts st'))) (fun _ _ => False) s := by
  obtain ⟨x, nm, ct, vs, t1, t2, t3, y, ty, rfl, hi, hn, hc, hI⟩ := id hw
  obtain ⟨x', nm', ct', vs', t1', t2', t3', y', ty', rfl, hi', hn', hc', hI'⟩ := id hw'
  refine enter (fd := fdWit) (binds := [("self", .ref x), ("other", .ref x')]) hR C a rfl rfl rfl (BindsTo.of_eq rfl) (by decide) (locs rfl) (fun A' L s₁ a' F => ?_)
  repeat' walk_at "ev"
  rename Fm _ _ _ _ _ _ _ _ _ => F
  refine g_meth F (hi.mono F.led) (ws_lon w) (isFn_lon w) rfl ?_
  repeat' walk_at "ev"
  rename Fm _ _ _ _ _ _ _ _ _ => F
  refine use_ret F (lon_spec hR F.cx a' hw (by omega)) ?_
  rintro _ k1 s1 hs1 ⟨t, rfl⟩ F
  repeat' walk_at "ev"
  rename Fm _ _ _ _ _ _ _ _ _ => F
  refine g_meth F ((hi'.mono hs1).mono F.led) (ws_lon w) (isFn_lon w) rfl ?_
  repeat' walk_at "ev"
  rename Fm _ _ _ _ _ _ _ _ _ => F
  refine use_ret F (lon_spec hR F.cx a' (hw'.mono hs1) (by omega)) ?_
  rintro _ k2 s2 hs2 ⟨t', rfl⟩ F
  repeat' walk_at "ev"
  rename Fm _ _ _ _ _ _ _ _ _ => F
  refine c_max2 F a'.hd fun t s' F => ?_
  generalize hN : max (max ((st.1.length : Int) - 1) st.2.1) (max ((st'.1.length : Int) - 1) st'.2.1) = N at *
  have hN0 : 0 ≤ N ∧ N ≤ 1000 := by omega
  repeat' walk_at "ev"
  rename Fm _ _ _ _ _ _ _ _ _ => F
  refine o_list F (by exact Nat.zero_le _) fun d s' F => ?_
  repeat' walk_at "ev"
  rename Fm _ _ _ _ _ _ _ _ _ => F
  refine c_range2 F fun r v9 s' F => ?_
  refine loop_range F a'.hd (by omega) (by omega) (by omega) (by omega) (fun i m k' mu => m "self" = some (.ref x) ∧ m "other" = some (.ref x') ∧ m "a" = some (.ref d) ∧ ∃ (vs : List Value) (n' : Nat), mu = [(d, lst vs n')] ∧ vs.length = i ∧
      ∀ j (h : j < i), ∃ (a : Addr) (t1 t2 t3 : Tok) (items : Array Value), vs[j]? = some (.ref a) ∧ IsTup k' a items ∧ items = [.int (1 + (j : Int)) t1, .int (levW (1 + j) st) t2, .int (levW (1 + j) st') t3].toArray)
    ⟨by walk_at "lk", by walk_at "lk", by walk_at "lk", [], 0, rfl, rfl, fun j h => absurd h (Nat.not_lt_zero _)⟩ ?_ ?_
  · rintro i ti I o' m k' mu' s1 hlt' hsub ⟨hself, hother, ha, vs, n', rfl, hvl, hvs⟩ F
    have hb := hs1.trans (hs2.trans hsub)
    repeat' walk_at "ev"
    rename Fm _ _ _ _ _ _ _ _ _ => F
    refine g_meth F ((hi.mono hb).mono F.led) (ws_ind w) (isFn_ind w) rfl ?_
    repeat' walk_at "ev"
    rename Fm _ _ _ _ _ _ _ _ _ => F
    refine use_ret F (ind_spec hR F.cx a' (hw.mono hb) (by omega) (by omega) (by omega)) ?_
    rintro _ k3 s3 hs3 ⟨t, rfl⟩ F
    repeat' walk_at "ev"
    rename Fm _ _ _ _ _ _ _ _ _ => F
    have hb := hb.trans hs3
    refine g_meth F ((hi'.mono hb).mono F.led) (ws_ind w) (isFn_ind w) rfl ?_
    repeat' walk_at "ev"
    rename Fm _ _ _ _ _ _ _ _ _ => F
    refine use_ret F (ind_spec hR F.cx a' (hw'.mono hb) (by omega) (by omega) (by omega)) ?_
    rintro _ k4 s4 hs4 ⟨t', rfl⟩ F
    have hb := hb.trans hs4
    repeat' walk_at "ev"
    refine ⟨fun q => ?_, fun q => ?_⟩
    · repeat' walk_at "ev"
      rename Fm _ _ _ _ _ _ _ _ _ => F
      rename Fm _ _ _ _ _ _ _ _ _ => F
      refine gm_append F.at0 ?_
      repeat' walk_at "ev"
      rename Fm _ _ _ _ _ _ _ _ _ => F
      refine g_meth F ((hi.mono hb).mono F.led) (ws_ind w) (isFn_ind w) rfl ?_
      repeat' walk_at "ev"
      rename Fm _ _ _ _ _ _ _ _ _ => F
      refine use_ret F (ind_spec hR F.cx a' (hw.mono hb) (by omega) (by omega) (by omega)) ?_
      rintro _ k5 s5 hs5 ⟨t5, rfl⟩ F
      have hb := hb.trans hs5
      repeat' walk_at "ev"
      rename Fm _ _ _ _ _ _ _ _ _ => F
      refine g_meth F ((hi'.mono hb).mono F.led) (ws_ind w) (isFn_ind w) rfl ?_
      repeat' walk_at "ev"
      rename Fm _ _ _ _ _ _ _ _ _ => F
      refine use_ret F (ind_spec hR F.cx a' (hw'.mono hb) (by omega) (by omega) (by omega)) ?_
      rintro _ k6 s6 hs6 ⟨t6, rfl⟩ F
      repeat' walk_at "ev"
      rename Fm _ _ _ _ _ _ _ _ _ => F
      refine o_tuple F (by exact Nat.le_of_ble_eq_true rfl) fun dt s' F => ?_
      obtain ⟨k7, hs7, hk7, F⟩ := F.freeze
      repeat' walk_at "ev"
      rename Fm _ _ _ _ _ _ _ _ _ => F
      refine c_append F (by omega) fun n8 s' F => ⟨rfl, ?_⟩
      have hup : Sub k' k7 := hs3.trans (hs4.trans (hs5.trans (hs6.trans hs7)))
      repeat' walk_at "ev"
      rename Fm _ _ _ _ _ _ _ _ _ => F
      refine turn_next (mu := [(d, lst (vs ++ [Value.ref dt]) n8)]) F (hsub.trans hup) ⟨by walk_at "lk", by walk_at "lk", by walk_at "lk", _, n8, rfl, by simp [hvl], fun j hj => ?_⟩
      rcases Nat.lt_or_ge j i with h | h
      · obtain ⟨a, u1, u2, u3, items, e1, e2, e3⟩ := hvs j h
        exact ⟨a, u1, u2, u3, items, by rw [List.getElem?_append_left (by omega)]; exact e1, IsTup.mono e2 hup, e3⟩
      · have hji : j = i := by omega
        subst hji
        exact ⟨dt, _, _, _, _, by rw [List.getElem?_append_right (by omega)]; simp [hvl], (isT_mk _ 0).at hk7, rfl⟩
    · have := hlev (1 + (i : Int)) (by omega)
      exact absurd q (by simpa using this)
  · rintro m k' mu' s1 ⟨hself, hother, ha, vs, n', rfl, hvl, hvs⟩ hsub F
    repeat' walk_at "ev"
    rename Fm _ _ _ _ _ _ _ _ _ => F
    obtain ⟨k7, hs7, hk7, F⟩ := F.freeze
    refine Ret.of F ⟨d, vs, rfl, (isL_mk _ _).at hk7, by rw [hvl]; omega, fun i hi => ?_⟩
    obtain ⟨a, u1, u2, u3, items, e1, e2, e3⟩ := hvs i (by omega)
    exact ⟨a, u1, u2, u3, items, e1, IsTup.mono e2 hs7, e3⟩
noncomputable def fdEntry : FuncData := fdGet 134 rfl
def TabV (tot : Int) (k : Heap) : List (Int × Value) → List (Int × Int) → Prop
  | [], [] => True
  | p :: r, q :: l => p.1 = q.1 ∧ Cal tot k p.2 q.1 q.2 ∧ TabV tot k r l
  | _, _ => False
def Tab (w : World) (tot : Int) (k : Heap) (d : Addr) (ps : List (Int × Int)) : Prop := (d == sysModules) = false ∧ ∃ kvs : List (Int × Value), DictK w k d kvs ∧ TabV tot k kvs ps
def Ent (w : World) (tot z : Int) (k : Heap) (v : Value) (f : Int → Int) (ps : List (Int × Int)) : Prop :=
  ∃ (a d : Addr) (t1 t2 t3 t4 : Tok), v = .ref a ∧ IsTup k a [.int (f 1) t1, .int (f 2) t2, .int (f 3) t3, .int (f z) t4, .ref d].toArray ∧ Tab w tot k d ps
theorem Cal.mono {tot : Int} {k k' : Heap} {v : Value} {i c : Int} (h : Cal tot k v i c) (hs : Sub k k') : Cal tot k' v i c := by
  unfold Cal at *
  split
  · rename_i q; rw [if_pos q] at h; exact h
  · rename_i q; rw [if_neg q] at h
    obtain ⟨a, t1, t2, t3, n, e, g⟩ := h
    exact ⟨a, t1, t2, t3, n, e, hs _ _ g⟩
theorem TabV.mono {tot : Int} {k k' : Heap} (hs : Sub k k') : ∀ {kvs : List (Int × Value)} {ps : List (Int × Int)}, TabV tot k kvs ps → TabV tot k' kvs ps
  | [], [], _ => trivial
  | p :: r, q :: l, ⟨a, b, c⟩ => ⟨a, b.mono hs, c.mono hs⟩
  | [], _ :: _, h => h.elim
  | _ :: _, [], h => h.elim
theorem TabV.snoc {tot : Int} {k : Heap} {i c : Int} {v : Value} (hc : Cal tot k v i c) : ∀ {kvs : List (Int × Value)} {ps : List (Int × Int)}, TabV tot k kvs ps → TabV tot k (kvs ++ [(i, v)]) (ps ++ [(i, c)])
  | [], [], _ => ⟨rfl, hc, trivial⟩
  | p :: r, q :: l, ⟨a, b, h⟩ => ⟨a, b, TabV.snoc hc h⟩
  | [], _ :: _, h => h.elim
  | _ :: _, [], h => h.elim
theorem TabV.keys {tot : Int} {k : Heap} : ∀ {kvs : List (Int × Value)} {ps : List (Int × Int)}, TabV tot k kvs ps → kvs.map (·.1) = ps.map (·.1)
  | [], [], _ => rfl
  | p :: r, q :: l, ⟨a, b, h⟩ => by rw [List.map_cons, List.map_cons, a, TabV.keys h]
  | [], _ :: _, h => h.elim
  | _ :: _, [], h => h.elim
theorem TabV.len {tot : Int} {k : Heap} {kvs : List (Int × Value)} {ps : List (Int × Int)} (h : TabV tot k kvs ps) : kvs.length = ps.length := by
  have := congrArg List.length h.keys
  simpa using this
theorem stored_new {kvs : List (Int × Value)} {i : Int} {v : Value} (h : i ∉ kvs.map (·.1)) : stored kvs i v = kvs ++ [(i, v)] := by
  unfold stored
  rw [if_neg]
  rw [Bool.not_eq_true, List.any_eq_false]
  intro p hp q
  exact h (List.mem_map.mpr ⟨p, hp, by simpa using q⟩)
theorem Tab.mono {w : World} {tot : Int} {k k' : Heap} {d : Addr} {ps : List (Int × Int)} (h : Tab w tot k d ps) (hs : Sub k k') : Tab w tot k' d ps := let ⟨a, kvs, b, c⟩ := h; ⟨a, kvs, DictK.mono b hs, c.mono hs⟩
theorem Ent.mono {w : World} {tot z : Int} {k k' : Heap} {v : Value} {f : Int → Int} {ps : List (Int × Int)} (h : Ent w tot z k v f ps) (hs : Sub k k') : Ent w tot z k' v f ps :=
  let ⟨a, d, t1, t2, t3, t4, e, g, t⟩ := h; ⟨a, d, t1, t2, t3, t4, e, IsTup.mono g hs, t.mono hs⟩
def tabW (cnt : List Int) : Nat → List (Int × Int)
  | 0 => []
  | j + 1 => tabW cnt j ++ if cnt.getD j 0 = 0 then [] else [((j : Int), cnt.getD j 0)]
theorem tabW_lt (cnt : List Int) : ∀ j, ∀ p ∈ tabW cnt j, 0 ≤ p.1 ∧ p.1 < (j : Int)
  | 0, p, h => (nomatch h)
  | j + 1, p, h => by
    unfold tabW at h
    rcases List.mem_append.mp h with h | h
    · have := tabW_lt cnt j p h; omega
    · split at h
      · cases h
      · rw [List.mem_singleton.mp h]; dsimp only; omega
theorem tabW_len (cnt : List Int) : ∀ j, (tabW cnt j).length ≤ j
  | 0 => Nat.le_refl _
  | j + 1 => by
    unfold tabW
    have := tabW_len cnt j
    rw [List.length_append]
    split <;> simp <;> omega
theorem wsS_cnt {st : WsSt} {c n : Nat} (h : ∀ i, 0 ≤ st.1.getD i 0 ∧ st.1.getD i 0 ≤ (n : Int)) : ∀ i, 0 ≤ (wsS st c).1.getD i 0 ∧ (wsS st c).1.getD i 0 ≤ ((n + 1 : Nat) : Int) := by
  intro i
  unfold wsS
  split
  · have := h i; dsimp only; omega
  · dsimp only
    generalize hcn : (if st.2.1 ≥ (st.1.length : Int) then st.1 ++ List.replicate (st.2.1 - st.1.length + 1).toNat 0 else st.1) = cn
    have hg : ∀ j, cn.getD j 0 = st.1.getD j 0 := by
      intro j
      rw [← hcn]
      split
      · rw [List.getD_eq_getElem?_getD, List.getD_eq_getElem?_getD, List.getElem?_append]
        split
        · rfl
        · rename_i hj
          rw [List.getElem?_eq_none (Nat.not_lt.mp hj)]
          rw [List.getElem?_replicate]
          split <;> rfl
      · rfl
    have h1 := h i
    have h2 := h st.2.1.toNat
    rw [List.getD_eq_getElem?_getD, List.getElem?_set]
    split
    · split
      · rw [hg]; simp only [Option.getD_some]; omega
      · simp; omega
    · rw [← List.getD_eq_getElem?_getD, hg]; omega
theorem wsF_cnt (l : List Nat) (i : Nat) : 0 ≤ (wsF l).1.getD i 0 ∧ (wsF l).1.getD i 0 ≤ (l.length : Int) := by
  have : ∀ (l : List Nat) (st : WsSt) (n : Nat), (∀ i, 0 ≤ st.1.getD i 0 ∧ st.1.getD i 0 ≤ (n : Int)) → ∀ i, 0 ≤ (l.foldl wsS st).1.getD i 0 ∧ (l.foldl wsS st).1.getD i 0 ≤ ((n + l.length : Nat) : Int) := by
    intro l
    induction l with
    | nil => intro st n h i; simpa using h i
    | cons c l ih =>
      intro st n h i
      have := ih (wsS st c) (n + 1) (wsS_cnt h) i
      rw [List.foldl_cons, List.length_cons]
      have e : n + 1 + l.length = n + (l.length + 1) := by omega
      rw [e] at this
      exact this
  have := this l ([], 0, 0, 0) 0 (fun i => by simp) i
  simpa [wsF] using this
def SizesAt (k : Heap) (v : Value) (z : Int) : Prop := ∃ (l : Addr) (t1 t2 t3 t4 : Tok), v = .ref l ∧ k.IsList l [.int 1 t1, .int 2 t2, .int 3 t3, .int z t4].toArray
theorem SizesAt.mono {k k' : Heap} {v : Value} {z : Int} (h : SizesAt k v z) (hs : Sub k k') : SizesAt k' v z := let ⟨l, t1, t2, t3, t4, e, g⟩ := h; ⟨l, t1, t2, t3, t4, e, IsList.mono g hs⟩
theorem x_list : (Str.ofString "x").cps.toList = [120] := by rw [x_is]
theorem paired4 {G : Value → Value → Prop} {a b c d : Value} {ys : List Value} (h : Paired G [a, b, c, d] ys) : ∃ y1 y2 y3 y4, ys = [y1, y2, y3, y4] ∧ G a y1 ∧ G b y2 ∧ G c y3 ∧ G d y4 := by
  cases h with
  | cons h1 h =>
    cases h with
    | cons h2 h =>
      cases h with
      | cons h3 h =>
        cases h with
        | cons h4 h =>
          cases h
          exact ⟨_, _, _, _, rfl, h1, h2, h3, h4⟩
set_option maxHeartbeats 2000000 in
theorem entry_spec {w : World} {R : Shared → Shared → Prop} {s : Shared} {k : Heap} {A : Around} {y : Str} {t t3 : Tok} {l : List Nat} {vz : Value} {z tot : Int} (hR : Rel w R) (C : Cx w k s) (a : Ar A 3) (hy : y.cps.toList = l) (hl : ∀ c ∈ l, c = 32 ∨ c = 9) (hz : l.length ≤ 900)
    (hsz : SizesAt k vz z) (hz1 : 1 ≤ z) (hz2 : z ≤ 100) :
    wpAny (model Pr w) A (call (.ref 134) [.str y t, vz, .int tot t3]) (Ret R s k (fun k' v => Ent w tot z k' v (fun ts => levW ts (wsF l)) (tabW (wsF l).1 (wsF l).1.length))) (fun _ _ => False) s := by
  obtain ⟨ls, u1, u2, u3, u4, rfl, hls⟩ := hsz
  refine enter_c (fd := fdEntry) (binds := [("text", .str y t), ("sizes", .ref ls), ("total", .int tot t3)]) hR C a rfl rfl rfl rfl rfl (fun x hx => .inl (locs rfl x hx)) (fun A' L s₁ a' F hcell => ?_)
  obtain ⟨ocl, hocl, F⟩ := F.cell (hcell "blank" (L + 1) rfl)
  repeat' walk_at "ev"
  rename Fm _ _ _ _ _ _ _ _ _ => F
  refine o_cat F ?_ fun t5 s5 F => ?_
  · rw [show y.length = l.length from by rw [← hy]; exact (Array.length_toList ..).symm, show (Str.ofString "x").length = 1 from by decide +kernel, sizeLine_eq]; omega
  repeat' walk_at "ev"
  rename Fm _ _ _ _ _ _ _ _ _ => F
  refine use_ret F (ws_spec (l := l) hR F.cx a' (by rw [cat_list, hy, x_list]) hl (by omega)) ?_
  rintro vb k1 s1 hs1 hw F
  have hbd := wsF_bnd l
  have hcn := wsF_cnt l
  generalize wsF l = st at *
  repeat' walk_at "ev"
  refine x_cell F hocl fun oc2 s2 hoc2 F => ?_
  obtain ⟨k2, hs2, hk2, F⟩ := F.freeze
  have hcl : k2.IsCell (L + 1) (some vb) := cell_at hk2 hoc2
  have hw2 := hw.mono hs2
  obtain ⟨x, nm, ct, vs, t1', t2', t3', y', ty, rfl, hi, hn, hc, hI⟩ := id hw2
  have hlv := hI.length
  repeat' walk_at "ev"
  rename Fm _ _ _ _ _ _ _ _ _ => F
  refine e_dict0 F fun d od s3 hod F => ?_
  repeat' walk_at "ev"
  rename Fm _ _ _ _ _ _ _ _ _ => F
  refine e_cell (IsCell.mono hcl F.led) ?_
  repeat' walk_at "ev"
  rename Fm _ _ _ _ _ _ _ _ _ => F
  refine g_attr F (hi.mono F.led) (ws_norm w) rfl rfl fun s' F => ?_
  repeat' walk_at "ev"
  rename Fm _ _ _ _ _ _ _ _ _ => F
  refine o_getT (IsTup.mono hn F.led) (by decide) (by decide) rfl ?_
  repeat' walk_at "ev"
  rename Fm _ _ _ _ _ _ _ _ _ => F
  refine c_lenT F (IsTup.mono hc F.led) (by omega) fun t s' F => ?_
  repeat' walk_at "ev"
  rename Fm _ _ _ _ _ _ _ _ _ => F
  refine c_range1 F fun r u9 v9 s' F => ?_
  refine loop_range F a'.hd (by omega) (by omega) (by omega) (by omega) (fun i m k' mu => m "sizes" = some (.ref ls) ∧ m "total" = some (.int tot t3) ∧ m "table" = some (.ref d) ∧ ∃ (o : Obj) (kvs : List (Int × Value)), mu = [(d, o)] ∧ IsD w o kvs ∧ TabV tot k' kvs (tabW st.1 i))
    ⟨by walk_at "lk", by walk_at "lk", by walk_at "lk", od, [], rfl, hod, trivial⟩ ?_ ?_
  · rintro i ti I o' m k' mu' s4 hlt' hsub ⟨hsizes, htotal, htable, o, kvs, rfl, hkd, htv⟩ F
    rw [show (0 : Int) + (i : Int) = (i : Int) from by omega] at *
    obtain ⟨tq, hq⟩ := ints_at hI (j := i) (by omega)
    have hq' : vs[(i : Int).toNat]? = some (.int (st.1.getD i 0) tq) := by rw [Int.toNat_natCast]; exact hq
    have hlen := htv.len
    have hlen' := tabW_len st.1 i
    repeat' walk_at "ev"
    rename Fm _ _ _ _ _ _ _ _ _ => F
    refine e_cell (IsCell.mono hcl (hsub.trans F.led)) ?_
    repeat' walk_at "ev"
    rename Fm _ _ _ _ _ _ _ _ _ => F
    refine g_attr F (hi.mono (hsub.trans F.led)) (ws_norm w) rfl rfl fun s' F => ?_
    repeat' walk_at "ev"
    rename Fm _ _ _ _ _ _ _ _ _ => F
    refine o_getT (IsTup.mono hn (hsub.trans F.led)) (by decide) (by decide) rfl ?_
    repeat' walk_at "ev"
    rename Fm _ _ _ _ _ _ _ _ _ => F
    refine o_getT (IsTup.mono hc (hsub.trans F.led)) (by omega) (by omega) hq' ?_
    repeat' walk_at "ev"
    refine ⟨fun q => ?_, fun q => ?_⟩
    · have q : st.1.getD i 0 ≠ 0 := by simpa using q
      repeat' walk_at "ev"
      rename Fm _ _ _ _ _ _ _ _ _ => F
      refine e_cell (IsCell.mono hcl (hsub.trans F.led)) ?_
      repeat' walk_at "ev"
      rename Fm _ _ _ _ _ _ _ _ _ => F
      refine g_attr F (hi.mono (hsub.trans F.led)) (ws_norm w) rfl rfl fun s' F => ?_
      repeat' walk_at "ev"
      rename Fm _ _ _ _ _ _ _ _ _ => F
      refine o_getT (IsTup.mono hn (hsub.trans F.led)) (by decide) (by decide) rfl ?_
      repeat' walk_at "ev"
      rename Fm _ _ _ _ _ _ _ _ _ => F
      refine o_getT (IsTup.mono hc (hsub.trans F.led)) (by omega) (by omega) hq' ?_
      repeat' walk_at "ev"
      rename Fm _ _ _ _ _ _ _ _ _ => F
      have := hcn i
      refine use_ret F (caller_spec hR F.cx (a'.le (by decide)) (by omega) (by omega)) ?_
      rintro vc k5 s5 hs5 hcal F
      repeat' walk_at "ev"
      rename Fm _ _ _ _ _ _ _ _ _ => F
      refine o_setD F hkd (by omega) fun o2 s' hkd2 F => ?_
      repeat' walk_at "ev"
      rename Fm _ _ _ _ _ _ _ _ _ => F
      refine turn_next (mu := [(d, o2)]) F (hsub.trans hs5) ⟨by walk_at "lk", by walk_at "lk", by walk_at "lk", o2, _, rfl, hkd2, ?_⟩
      rw [stored_new (fun h => ?_)]
      · unfold tabW
        rw [if_neg q]
        exact TabV.snoc hcal (htv.mono hs5)
      · rw [htv.keys] at h
        obtain ⟨p, hp, e⟩ := List.mem_map.mp h
        have := tabW_lt st.1 i p hp
        omega
    · have q : st.1.getD i 0 = 0 := by simpa using q
      repeat' walk_at "ev"
      rename Fm _ _ _ _ _ _ _ _ _ => F
      refine turn_next (mu := [(d, o)]) F hsub ⟨by walk_at "lk", by walk_at "lk", by walk_at "lk", o, kvs, rfl, hkd, ?_⟩
      unfold tabW
      rw [if_pos q, List.append_nil]
      exact htv
  · rintro m k' mu' s4 ⟨hsizes, htotal, htable, o, kvs, rfl, hkd, htv⟩ hsub F
    rw [hlv, show ((st.1.length : Int) - 0).toNat = st.1.length from by omega] at htv
    refine xs_comp (cl := [("blank", L + 1)]) rfl ?_
    repeat' walk_at "ev"
    rename Fm _ _ _ _ _ _ _ _ _ => F
    have hls' := IsList.mono hls (hs1.trans (hs2.trans hsub))
    refine comp_list F a'.hd hls' (by simp) (fun v y => ∃ i t t', v = .int i t ∧ y = .int (levW i st) t') ?_ ?_
    · rintro v C mc k3 mu3 s5 hv hs3 hmc F
      have hvi : ∃ i t, v = .int i t ∧ 1 ≤ i ∧ i ≤ 100 := by
        simp only [List.mem_cons, List.not_mem_nil, or_false] at hv
        rcases hv with rfl | rfl | rfl | rfl
        · exact ⟨_, _, rfl, by decide, by decide⟩
        · exact ⟨_, _, rfl, by decide, by decide⟩
        · exact ⟨_, _, rfl, by decide, by decide⟩
        · exact ⟨_, _, rfl, hz1, hz2⟩
      obtain ⟨i, ti, rfl, hi1, hi2⟩ := hvi
      repeat' walk_at "ev"
      rename Fm _ _ _ _ _ _ _ _ _ => F
      refine e_cell (IsCell.mono hcl (hsub.trans (hs3.trans F.led))) ?_
      refine g_meth F (hi.mono (hsub.trans (hs3.trans F.led))) (ws_ind w) (isFn_ind w) rfl ?_
      repeat' walk_at "ev"
      rename Fm _ _ _ _ _ _ _ _ _ => F
      refine use_ret F (ind_spec hR F.cx (a'.le (by decide)) (hw2.mono (hsub.trans hs3)) (by omega) hi1 (by omega)) ?_
      rintro _ k6 s6 hs6 ⟨t6, rfl⟩ F
      exact elt_of F hs6 ⟨i, ti, t6, rfl, rfl⟩
    · intro D n' ys k3 C mc s5 hp hs3
      obtain ⟨y1, y2, y3, y4, rfl, ⟨_, _, w1, e1, rfl⟩, ⟨_, _, w2, e2, rfl⟩, ⟨_, _, w3, e3, rfl⟩, ⟨_, _, w4, e4, rfl⟩⟩ := paired4 hp
      cases e1; cases e2; cases e3; cases e4
      refine behind_assign fun s6 F => ?_
      repeat' walk_at "ev"
      rename Fm _ _ _ _ _ _ _ _ _ => F
      refine o_getL ((isL_mk _ _).at F.at0) (by decide) (by decide) rfl ?_
      repeat' walk_at "ev"
      rename Fm _ _ _ _ _ _ _ _ _ => F
      refine o_getL ((isL_mk _ _).at F.at0) (by decide) (by decide) rfl ?_
      repeat' walk_at "ev"
      rename Fm _ _ _ _ _ _ _ _ _ => F
      refine o_getL ((isL_mk _ _).at F.at0) (by decide) (by decide) rfl ?_
      repeat' walk_at "ev"
      rename Fm _ _ _ _ _ _ _ _ _ => F
      refine o_getL ((isL_mk _ _).at F.at0) (by decide) (by decide) rfl ?_
      repeat' walk_at "ev"
      rename Fm _ _ _ _ _ _ _ _ _ => F
      refine o_tuple F (by exact Nat.le_of_ble_eq_true rfl) fun dt s' F => ?_
      have hnm := F.drop.drop.nsm
      obtain ⟨k7, hs7, hk7, F⟩ := F.freeze
      have F := F.drop
      obtain ⟨k8, hs8, hk8, F⟩ := F.freeze
      refine Fin.ret (Ret.of F ⟨dt, d, w1, w2, w3, w4, rfl, IsTup.mono ((isT_mk _ 0).at hk7) hs8, hnm, kvs, hkd.at hk8, htv.mono (hs3.trans (hs7.trans hs8))⟩)
def enc (rs : List Nat) (b : Nat) : List Nat := encR rs ++ List.replicate b 32
theorem encR_cons (r : Nat) (rs : List Nat) : encR (r :: rs) = List.replicate r 32 ++ 9 :: encR rs := by simp [encR]
theorem encR_append (a c : List Nat) : encR (a ++ c) = encR a ++ encR c := by simp [encR]
theorem enc_nil (b : Nat) : enc [] b = List.replicate b 32 := rfl
theorem enc_cons (r : Nat) (rs : List Nat) (b : Nat) : enc (r :: rs) b = List.replicate r 32 ++ 9 :: enc rs b := by simp [enc, encR_cons]
theorem enc_append (a c : List Nat) (b : Nat) : enc a 0 ++ enc c b = enc (a ++ c) b := by simp [enc, encR_append]
theorem enc_mem {rs : List Nat} {b c : Nat} (h : c ∈ enc rs b) : c = 32 ∨ c = 9 := by
  induction rs with
  | nil => rw [enc_nil] at h; exact .inl (List.eq_of_mem_replicate h)
  | cons r rs ih =>
    rw [enc_cons] at h
    rcases List.mem_append.mp h with h | h
    · exact .inl (List.eq_of_mem_replicate h)
    · rcases List.mem_cons.mp h with h | h
      · exact .inr h
      · exact ih h
def wid (rs : List Nat) : Nat := (rs.map (· + 1)).sum
theorem wid_cons (r : Nat) (rs : List Nat) : wid (r :: rs) = r + 1 + wid rs := by simp [wid]
theorem wid_append (a c : List Nat) : wid (a ++ c) = wid a + wid c := by simp [wid]
theorem enc_len (rs : List Nat) (b : Nat) : (enc rs b).length = wid rs + b := by
  induction rs with
  | nil => simp [enc_nil, wid]
  | cons r rs ih => rw [enc_cons, List.length_append, List.length_cons, ih, wid_cons, List.length_replicate]; omega
def joinL : List (List Nat) → List Nat
  | [] => []
  | [x] => x
  | x :: y :: r => x ++ 9 :: joinL (y :: r)
theorem joinL_cons (x : List Nat) {l : List (List Nat)} (h : l ≠ []) : joinL (x :: l) = x ++ 9 :: joinL l := by
  cases l with
  | nil => exact absurd rfl h
  | cons y r => rfl
theorem join_list9 : ∀ ps : List Str, (Str.join ⟨#[9]⟩ ps).cps.toList = joinL (ps.map (·.cps.toList))
  | [] => rfl
  | [x] => rfl
  | x :: y :: r => by
    show (x ++ ⟨#[9]⟩ ++ Str.join ⟨#[9]⟩ (y :: r) : Str).cps.toList = _
    rw [cat_list, cat_list, join_list9 (y :: r)]
    show x.cps.toList ++ [9] ++ _ = x.cps.toList ++ 9 :: _
    rw [List.append_assoc]; rfl
theorem cut9 : ∀ (p q X Y : List Nat), 9 ∉ p → 9 ∉ q → p ++ 9 :: X = q ++ 9 :: Y → p = q ∧ X = Y
  | [], [], X, Y, _, _, h => by simpa using h
  | [], c :: q, X, Y, _, hq, h => by
    simp only [List.nil_append, List.cons_append, List.cons.injEq] at h
    exact absurd (h.1 ▸ List.mem_cons_self) hq
  | c :: p, [], X, Y, hp, _, h => by
    simp only [List.nil_append, List.cons_append, List.cons.injEq] at h
    exact absurd (h.1.symm ▸ List.mem_cons_self) hp
  | c :: p, d :: q, X, Y, hp, hq, h => by
    simp only [List.cons_append, List.cons.injEq] at h
    have := cut9 p q X Y (fun e => hp (List.mem_cons_of_mem _ e)) (fun e => hq (List.mem_cons_of_mem _ e)) h.2
    exact ⟨by rw [h.1, this.1], this.2⟩
theorem joinL_uniq : ∀ (P Q : List (List Nat)), P ≠ [] → Q ≠ [] → (∀ p ∈ P, 9 ∉ p) → (∀ q ∈ Q, 9 ∉ q) → joinL P = joinL Q → P = Q
  | [], _, h, _, _, _, _ => absurd rfl h
  | _, [], _, h, _, _, _ => absurd rfl h
  | [p], [q], _, _, _, _, h => by rw [show p = q from h]
  | [p], q :: q' :: r, _, _, hp, _, h => by
    have h : p = q ++ 9 :: joinL (q' :: r) := h
    exact absurd (by rw [h]; simp) (hp p (by simp))
  | p :: p' :: r, [q], _, _, _, hq, h => by
    have h : p ++ 9 :: joinL (p' :: r) = q := h
    exact absurd (by rw [← h]; simp) (hq q (by simp))
  | p :: p' :: r, q :: q' :: t, _, _, hp, hq, h => by
    have h : p ++ 9 :: joinL (p' :: r) = q ++ 9 :: joinL (q' :: t) := h
    obtain ⟨a, b⟩ := cut9 _ _ _ _ (hp p (by simp)) (hq q (by simp)) h
    rw [a, joinL_uniq (p' :: r) (q' :: t) (by simp) (by simp) (fun x hx => hp x (List.mem_cons_of_mem _ hx)) (fun x hx => hq x (List.mem_cons_of_mem _ hx)) b]
theorem joinL_enc (b : Nat) : ∀ rs : List Nat, joinL (rs.map (List.replicate · 32) ++ [List.replicate b 32]) = enc rs b
  | [] => rfl
  | r :: rs => by
    rw [List.map_cons, List.cons_append, joinL_cons _ (by simp), joinL_enc b rs, enc_cons]
theorem split_enc {y : Str} {rs : List Nat} {b : Nat} (h : y.cps.toList = enc rs b) : (Txt.split y (Str.ofString "\t")).map (·.cps.toList) = rs.map (List.replicate · 32) ++ [List.replicate b 32] := by
  rw [tab_is]
  apply joinL_uniq
  · intro e
    have := split_pos y ⟨#[9]⟩
    rw [List.map_eq_nil_iff] at e
    rw [e] at this
    simp at this
  · simp
  · intro p hp
    obtain ⟨q, hq, rfl⟩ := List.mem_map.mp hp
    exact StrLaws.split_free y 9 q hq
  · intro p hp
    rcases List.mem_append.mp hp with hp | hp
    · obtain ⟨r, _, rfl⟩ := List.mem_map.mp hp
      intro e; exact absurd (List.eq_of_mem_replicate e) (by decide)
    · rw [List.mem_singleton.mp hp]
      intro e; exact absurd (List.eq_of_mem_replicate e) (by decide)
  · rw [← join_list9, StrLaws.join_split, h, joinL_enc]
theorem split_lens {y : Str} {rs : List Nat} {b : Nat} (h : y.cps.toList = enc rs b) : (Txt.split y (Str.ofString "\t")).map (·.length) = rs ++ [b] := by
  have e := congrArg (List.map List.length) (split_enc h)
  rw [List.map_map] at e
  have e2 : (Txt.split y (Str.ofString "\t")).map (·.length) = (Txt.split y (Str.ofString "\t")).map (List.length ∘ fun x => x.cps.toList) := by
    apply List.map_congr_left
    intro x _
    exact (Array.length_toList ..).symm
  rw [e2, e]
  simp [Function.comp_def]
theorem empty_is : Str.ofString "" = ⟨#[]⟩ := by decide +kernel
theorem join_flat (ys : List Str) : (Txt.join (Str.ofString "") ys).cps.toList = (ys.map (·.cps.toList)).flatten := by
  have key : ∀ (l : List Str) (acc : Array Nat), (l.foldl (fun acc p => acc ++ (#[] : Array Nat) ++ p.cps) acc).toList = acc.toList ++ (l.map (·.cps.toList)).flatten := by
    intro l
    induction l with
    | nil => intro acc; simp
    | cons p l ih => intro acc; rw [List.foldl_cons, ih]; simp
  rw [empty_is]
  show ((ys.drop 1).foldl (fun acc p => acc ++ (#[] : Array Nat) ++ p.cps) (ys.headD Str.empty).cps).toList = _
  cases ys with
  | nil => rfl
  | cons y ys => rw [key]; rfl
def stepC (cnt : List Int) (r : Nat) : List Int :=
  let c := if (r : Int) ≥ (cnt.length : Int) then cnt ++ List.replicate ((r : Int) - cnt.length + 1).toNat 0 else cnt
  c.set r (c.getD r 0 + 1)
def cntL (rs : List Nat) : List Int := rs.foldl stepC []
theorem ws_blanks : ∀ (n : Nat) (st : WsSt), (List.replicate n 32).foldl wsS st = (st.1, st.2.1 + n, st.2.2.1 + n, st.2.2.2)
  | 0, st => by simp
  | n + 1, st => by
    rw [List.replicate_succ, List.foldl_cons, ws_blanks n]
    rw [wsS, if_pos rfl]
    have e1 : st.2.1 + 1 + (n : Int) = st.2.1 + ((n + 1 : Nat) : Int) := by omega
    have e2 : st.2.2.1 + 1 + (n : Int) = st.2.2.1 + ((n + 1 : Nat) : Int) := by omega
    rw [← e1, ← e2]
theorem ws_runs : ∀ (rs : List Nat) (cnt : List Int) (n nt : Int), (encR rs).foldl wsS (cnt, 0, n, nt) = (rs.foldl stepC cnt, 0, n + (wid rs : Int), nt + (rs.length : Int))
  | [], cnt, n, nt => by simp [encR, wid]
  | r :: rs, cnt, n, nt => by
    rw [encR_cons, List.foldl_append, ws_blanks, List.foldl_cons]
    have e : wsS (cnt, 0 + (r : Int), n + (r : Int), nt) 9 = (stepC cnt r, 0, n + r + 1, nt + 1) := by
      rw [wsS, if_neg (by decide)]
      simp only [Int.zero_add, Int.toNat_natCast]
      rfl
    rw [e, ws_runs rs, wid_cons, List.foldl_cons, List.length_cons]
    have e1 : n + (r : Int) + 1 + (wid rs : Int) = n + ((r + 1 + wid rs : Nat) : Int) := by omega
    have e2 : nt + 1 + (rs.length : Int) = nt + ((rs.length + 1 : Nat) : Int) := by omega
    rw [e1, e2]
theorem wsF_enc (rs : List Nat) (b : Nat) : wsF (enc rs b) = (cntL rs, (b : Int), ((wid rs + b : Nat) : Int), (rs.length : Int)) := by
  unfold wsF enc
  rw [List.foldl_append, ws_runs, ws_blanks]
  simp [cntL]
theorem stepC_get (cnt : List Int) (r i : Nat) : (stepC cnt r).getD i 0 = cnt.getD i 0 + if i = r then 1 else 0 := by
  unfold stepC
  dsimp only
  generalize hcn : (if (r : Int) ≥ (cnt.length : Int) then cnt ++ List.replicate ((r : Int) - cnt.length + 1).toNat 0 else cnt) = cn
  have hg : ∀ j, cn.getD j 0 = cnt.getD j 0 := by
    intro j
    rw [← hcn]
    split
    · rw [List.getD_eq_getElem?_getD, List.getD_eq_getElem?_getD, List.getElem?_append]
      split
      · rfl
      · rename_i hj
        rw [List.getElem?_eq_none (Nat.not_lt.mp hj), List.getElem?_replicate]
        split <;> rfl
    · rfl
  have hr : r < cn.length := by
    rw [← hcn]; split
    · rw [List.length_append, List.length_replicate]; omega
    · omega
  rw [List.getD_eq_getElem?_getD, List.getElem?_set]
  by_cases h : r = i
  · subst h
    rw [if_pos rfl, if_pos hr, hg]; simp
  · rw [if_neg h, ← List.getD_eq_getElem?_getD, hg, if_neg (fun e => h e.symm), Int.add_zero]
theorem stepC_len (cnt : List Int) (r : Nat) : (stepC cnt r).length = max cnt.length (r + 1) := by
  unfold stepC
  dsimp only
  rw [List.length_set]
  split
  · rw [List.length_append, List.length_replicate]; omega
  · omega
def mx (rs : List Nat) : Nat := rs.foldl (fun a r => max a (r + 1)) 0
theorem cnt_len : ∀ (rs : List Nat) (cnt : List Int), (rs.foldl stepC cnt).length = rs.foldl (fun a r => max a (r + 1)) cnt.length
  | [], _ => rfl
  | r :: rs, cnt => by rw [List.foldl_cons, List.foldl_cons, cnt_len rs, stepC_len]
theorem cntL_len (rs : List Nat) : (cntL rs).length = mx rs := cnt_len rs []
theorem lt_mx' : ∀ (rs : List Nat) (a i : Nat), i < rs.foldl (fun a r => max a (r + 1)) a ↔ i < a ∨ ∃ r ∈ rs, i ≤ r
  | [], a, i => by simp
  | r :: rs, a, i => by
    rw [List.foldl_cons, lt_mx' rs]
    constructor
    · rintro (h | ⟨x, hx, h⟩)
      · rcases Nat.lt_or_ge i a with q | q
        · exact .inl q
        · exact .inr ⟨r, by simp, by omega⟩
      · exact .inr ⟨x, by simp [hx], h⟩
    · rintro (h | ⟨x, hx, h⟩)
      · exact .inl (by omega)
      · rcases List.mem_cons.mp hx with rfl | hx
        · exact .inl (by omega)
        · exact .inr ⟨x, hx, h⟩
theorem lt_mx {rs : List Nat} {i : Nat} : i < mx rs ↔ ∃ r ∈ rs, i ≤ r := by
  unfold mx; rw [lt_mx']; simp
theorem cnt_get : ∀ (rs : List Nat) (cnt : List Int) (i : Nat), (rs.foldl stepC cnt).getD i 0 = cnt.getD i 0 + (rs.count i : Int)
  | [], cnt, i => by simp
  | r :: rs, cnt, i => by
    rw [List.foldl_cons, cnt_get rs, stepC_get, List.count_cons]
    by_cases h : r = i
    · subst h; simp; omega
    · have h' : ¬ i = r := fun e => h e.symm
      simp [h, h']
theorem cntL_get (rs : List Nat) (i : Nat) : (cntL rs).getD i 0 = (rs.count i : Int) := by
  unfold cntL; rw [cnt_get]; simp
theorem mx_perm {a c : List Nat} (h : a.Perm c) : mx a = mx c := by
  have key : ∀ i, i < mx a ↔ i < mx c := fun i => by
    rw [lt_mx, lt_mx]
    exact ⟨fun ⟨r, hr, q⟩ => ⟨r, h.mem_iff.mp hr, q⟩, fun ⟨r, hr, q⟩ => ⟨r, h.mem_iff.mpr hr, q⟩⟩
  rcases Nat.lt_trichotomy (mx a) (mx c) with q | q | q
  · exact absurd ((key _).mpr q) (Nat.lt_irrefl _)
  · exact q
  · exact absurd ((key _).mp q) (Nat.lt_irrefl _)
theorem cntL_perm {a c : List Nat} (h : a.Perm c) : cntL a = cntL c := by
  apply List.ext_getElem (by rw [cntL_len, cntL_len, mx_perm h])
  intro i h1 h2
  have e1 := cntL_get a i
  have e2 := cntL_get c i
  rw [List.getD_eq_getElem?_getD, List.getElem?_eq_getElem h1] at e1
  rw [List.getD_eq_getElem?_getD, List.getElem?_eq_getElem h2] at e2
  simp only [Option.getD_some] at e1 e2
  rw [e1, e2, h.count_eq]
def lev (ts : Int) (rs : List Nat) (b : Nat) : Int := b + ts * ((rs.map fun r : Nat => (r : Int) / ts).sum + rs.length)
theorem lev_append (ts : Int) (a c : List Nat) (b : Nat) : lev ts (a ++ c) b = lev ts a 0 + lev ts c b := by
  unfold lev
  rw [List.map_append, List.sum_append, List.length_append]
  have : ((a.length + c.length : Nat) : Int) = (a.length : Int) + c.length := by omega
  rw [this, show (List.map (fun r : Nat => (r : Int) / ts) a).sum + (List.map (fun r : Nat => (r : Int) / ts) c).sum + ((a.length : Int) + c.length) = ((List.map (fun r : Nat => (r : Int) / ts) a).sum + a.length) + ((List.map (fun r : Nat => (r : Int) / ts) c).sum + c.length) from by omega, Int.mul_add]
  simp only [Int.natCast_zero, Int.zero_add]
  omega
theorem lev_nil (ts : Int) (b : Nat) : lev ts [] b = b := by simp [lev]
def gI (ts : Int) (n r : Nat) : Int := if ts ≤ (r : Int) ∧ (r : Int) < ts + n then (r : Int) / ts else 0
theorem il_step {ts : Int} (h1 : 1 ≤ ts) {cnt cnt' : List Int} {r : Nat} (h : ∀ i, cnt'.getD i 0 = cnt.getD i 0 + if i = r then 1 else 0) : ∀ n, ilF ts cnt' n = ilF ts cnt n + gI ts n r
  | 0 => by unfold ilF gI; rw [if_neg (by omega)]; omega
  | n + 1 => by
    unfold ilF
    rw [il_step h1 h n, h, Int.fdiv_eq_ediv_of_nonneg _ (by omega)]
    unfold gI
    by_cases q : (ts + (n : Int)).toNat = r
    · have q' : (r : Int) = ts + n := by omega
      rw [if_pos q, if_neg (by omega), if_pos (by omega), Int.mul_add, q']
      omega
    · rw [if_neg q]
      have : (ts ≤ (r : Int) ∧ (r : Int) < ts + ((n + 1 : Nat) : Int)) ↔ (ts ≤ (r : Int) ∧ (r : Int) < ts + n) := by omega
      simp only [this, Int.add_zero]
      omega
theorem il_runs {ts : Int} (h1 : 1 ≤ ts) (n : Nat) : ∀ (rs : List Nat) (cnt : List Int), ilF ts (rs.foldl stepC cnt) n = ilF ts cnt n + (rs.map (gI ts n)).sum
  | [], cnt => by simp
  | r :: rs, cnt => by
    rw [List.foldl_cons, il_runs h1 n rs, il_step h1 (stepC_get cnt r), List.map_cons, List.sum_cons]
    omega
theorem il_nil (ts : Int) : ∀ n, ilF ts [] n = 0
  | 0 => rfl
  | n + 1 => by unfold ilF; rw [il_nil ts n]; simp
theorem levW_enc {ts : Int} (h1 : 1 ≤ ts) (rs : List Nat) (b : Nat) : levW ts (wsF (enc rs b)) = lev ts rs b := by
  rw [wsF_enc]
  unfold levW lev
  dsimp only
  have e : ilF ts (cntL rs) (((cntL rs).length : Int) - ts).toNat = (rs.map fun r : Nat => (r : Int) / ts).sum := by
    unfold cntL
    rw [il_runs h1, il_nil, Int.zero_add]
    congr 1
    apply List.map_congr_left
    intro r hr
    have hlt : r < mx rs := lt_mx.mpr ⟨r, hr, Nat.le_refl _⟩
    have hlen : (rs.foldl stepC []).length = mx rs := cntL_len rs
    rw [hlen]
    unfold gI
    by_cases q : ts ≤ (r : Int)
    · rw [if_pos (by omega)]
    · rw [if_neg (by omega), Int.ediv_eq_zero_of_lt (by omega) (by omega)]
  rw [e]
theorem col_blanks (ts : Int) : ∀ (n : Nat) (a : Int), colF ts (List.replicate n 32) a = a + n
  | 0, a => by simp [colF]
  | n + 1, a => by
    show colF ts (List.replicate n 32) (colS ts a 32) = _
    rw [col_blanks ts n, colS, if_neg (by decide)]
    omega
theorem col_app (ts : Int) (x y : List Nat) (a : Int) : colF ts (x ++ y) a = colF ts y (colF ts x a) := List.foldl_append ..
theorem col_runs {ts : Int} (h1 : 1 ≤ ts) (b : Nat) : ∀ (rs : List Nat) (q : Int), colF ts (enc rs b) (ts * q) = ts * q + lev ts rs b
  | [], q => by rw [enc_nil, col_blanks, lev_nil]
  | r :: rs, q => by
    rw [enc_cons, col_app, col_blanks]
    show colF ts (enc rs b) (colS ts (ts * q + r) 9) = _
    have e : colS ts (ts * q + (r : Int)) 9 = ts * (q + (r : Int) / ts + 1) := by
      rw [colS, if_pos rfl, Int.fmod_eq_emod_of_nonneg _ (by omega)]
      have h := Int.emod_add_mul_ediv (ts * q + (r : Int)) ts
      have h2 : (ts * q + (r : Int)) / ts = q + (r : Int) / ts := by
        rw [Int.add_comm, Int.add_mul_ediv_left _ _ (by omega)]; omega
      rw [h2] at h
      rw [Int.mul_add, Int.mul_one]
      omega
    rw [e, col_runs h1 b rs]
    have : lev ts (r :: rs) b = ts * ((r : Int) / ts + 1) + lev ts rs b := by
      rw [show r :: rs = [r] ++ rs from rfl, lev_append]
      simp [lev]
    rw [this, show q + (r : Int) / ts + 1 = q + ((r : Int) / ts + 1) from by omega, Int.mul_add]
    omega
theorem col_enc {ts : Int} (h1 : 1 ≤ ts) (rs : List Nat) (b : Nat) : colF ts (enc rs b) 0 = lev ts rs b := by
  have := col_runs h1 b rs 0
  simpa using this
theorem lev_pos {ts : Int} (h1 : 1 ≤ ts) {rs : List Nat} (h : rs ≠ []) (b : Nat) : 0 < lev ts rs b := by
  cases rs with
  | nil => exact absurd rfl h
  | cons r rs =>
    unfold lev
    have key : ∀ l : List Nat, 0 ≤ (l.map fun r : Nat => (r : Int) / ts).sum := by
      intro l
      induction l with
      | nil => simp
      | cons x l ih =>
        rw [List.map_cons, List.sum_cons]
        have := Int.ediv_nonneg (show (0 : Int) ≤ x by omega) (show 0 ≤ ts by omega)
        omega
    have hp := key (r :: rs)
    have : 0 < ts * ((List.map (fun r : Nat => (r : Int) / ts) (r :: rs)).sum + ((r :: rs).length : Int)) := Int.mul_pos (by omega) (by rw [List.length_cons]; omega)
    omega
theorem lev_one (rs : List Nat) (b : Nat) : lev 1 rs b = ((wid rs + b : Nat) : Int) := by
  unfold lev wid
  induction rs with
  | nil => simp
  | cons r rs ih =>
    simp only [List.map_cons, List.sum_cons, List.length_cons, Int.ediv_one] at ih ⊢
    omega
theorem lev_perm {ts : Int} {a c : List Nat} (h : a.Perm c) (b : Nat) : lev ts a b = lev ts c b := by
  unfold lev
  have : (a.map fun r : Nat => (r : Int) / ts).sum = (c.map fun r : Nat => (r : Int) / ts).sum := by
    induction h with
    | nil => rfl
    | cons x _ ih => simp only [List.map_cons, List.sum_cons, ih]
    | swap x y l => simp only [List.map_cons, List.sum_cons]; omega
    | trans _ _ ih1 ih2 => rw [ih1, ih2]
  rw [this, h.length_eq]
def putP (ps : List (Int × Int)) (i c : Int) : List (Int × Int) := if ps.any (fun q => q.1 = i) then ps.map (fun q => if q.1 = i then (q.1, c) else q) else ps ++ [(i, c)]
def cntP (ps : List (Int × Int)) (i : Int) : Int := ((ps.find? fun q => q.1 = i).map (·.2)).getD 0
def keysP (ps : List (Int × Int)) : List Int := ps.map (·.1)
def fstep (acc : List Int) (x : Int) : List Int := if x ∈ acc then acc else acc ++ [x]
def fcome (acc l : List Int) : List Int := l.foldl fstep acc
def addP (ps qs : List (Int × Int)) : List (Int × Int) := qs.foldl (fun ps q => putP ps q.1 (q.2 + cntP ps q.1)) ps
theorem any_iff (ps : List (Int × Int)) (i : Int) : (ps.any (fun q => q.1 = i)) = true ↔ i ∈ keysP ps := by
  simp [keysP]
theorem anyV_iff (kvs : List (Int × Value)) (i : Int) : (kvs.any (fun q => q.1 = i)) = true ↔ i ∈ kvs.map (·.1) := by
  simp
theorem TabV.put {tot : Int} {k : Heap} {kvs : List (Int × Value)} {ps : List (Int × Int)} {i c : Int} {v : Value} (h : TabV tot k kvs ps) (hc : Cal tot k v i c) : TabV tot k (stored kvs i v) (putP ps i c) := by
  unfold stored putP
  by_cases q : i ∈ keysP ps
  · have q' : i ∈ kvs.map (·.1) := by rw [h.keys]; exact q
    rw [if_pos ((any_iff ps i).mpr q), if_pos ((anyV_iff kvs i).mpr q')]
    clear q q'
    induction kvs generalizing ps with
    | nil => cases ps with
      | nil => trivial
      | cons _ _ => exact h.elim
    | cons p r ih => cases ps with
      | nil => exact h.elim
      | cons q l =>
        obtain ⟨a, b, d⟩ := h
        refine ⟨?_, ?_, ih d⟩
        · dsimp only; split <;> split <;> simp_all
        · dsimp only
          by_cases e : q.1 = i
          · rw [if_pos (a.trans e), if_pos e]; dsimp only; rw [e]; exact hc
          · rw [if_neg (fun x => e (a.symm.trans x)), if_neg e]; exact b
  · have q' : i ∉ kvs.map (·.1) := by rw [h.keys]; exact q
    rw [if_neg (fun x => q ((any_iff ps i).mp x)), if_neg (fun x => q' ((anyV_iff kvs i).mp x))]
    exact TabV.snoc hc h
theorem TabV.none {tot : Int} {k : Heap} {kvs : List (Int × Value)} {ps : List (Int × Int)} {i : Int} (h : TabV tot k kvs ps) (hi : i ∉ keysP ps) : valueAt kvs i = none := by
  unfold valueAt
  rw [List.find?_eq_none.mpr]; rfl
  intro p hp q
  apply hi
  show i ∈ ps.map (·.1)
  rw [← h.keys]
  exact List.mem_map.mpr ⟨p, hp, by simpa using q⟩
theorem TabV.some {tot : Int} {k : Heap} : ∀ {kvs : List (Int × Value)} {ps : List (Int × Int)} {i : Int}, TabV tot k kvs ps → i ∈ keysP ps → ∃ v, valueAt kvs i = some v ∧ Cal tot k v i (cntP ps i)
  | [], [], i, _, hi => by cases hi
  | p :: r, q :: l, i, ⟨a, b, d⟩, hi => by
    by_cases e : q.1 = i
    · refine ⟨p.2, ?_, ?_⟩
      · unfold valueAt; rw [List.find?_cons_of_pos (by simpa using a.trans e)]; rfl
      · unfold cntP; rw [List.find?_cons_of_pos (by simpa using e)]
        rw [← e]; exact b
    · have hi' : i ∈ keysP l := by
        rcases List.mem_cons.mp hi with x | x
        · exact absurd x.symm e
        · exact x
      obtain ⟨v, h1, h2⟩ := TabV.some d hi'
      refine ⟨v, ?_, ?_⟩
      · unfold valueAt at h1 ⊢; rw [List.find?_cons_of_neg (by simpa using fun x => e (a.symm.trans x))]; exact h1
      · unfold cntP at h2 ⊢; rw [List.find?_cons_of_neg (by simpa using e)]; exact h2
  | [], _ :: _, _, h, _ => h.elim
  | _ :: _, [], _, h, _ => h.elim
theorem keys_put (ps : List (Int × Int)) (i c : Int) : keysP (putP ps i c) = fstep (keysP ps) i := by
  unfold putP fstep
  by_cases q : i ∈ keysP ps
  · rw [if_pos ((any_iff ps i).mpr q), if_pos q]
    unfold keysP
    rw [List.map_map]
    apply List.map_congr_left
    intro p _
    simp only [Function.comp_def]
    split <;> rfl
  · rw [if_neg (fun x => q ((any_iff ps i).mp x)), if_neg q]
    simp [keysP]
theorem cnt_nil (i : Int) : cntP [] i = 0 := rfl
theorem cnt_cons (p : Int × Int) (ps : List (Int × Int)) (i : Int) : cntP (p :: ps) i = if p.1 = i then p.2 else cntP ps i := by
  unfold cntP
  by_cases e : p.1 = i
  · rw [if_pos e, List.find?_cons_of_pos (by simpa using e)]; rfl
  · rw [if_neg e, List.find?_cons_of_neg (by simpa using e)]
theorem cnt_out : ∀ {ps : List (Int × Int)} {i : Int}, i ∉ keysP ps → cntP ps i = 0
  | [], i, _ => rfl
  | p :: ps, i, h => by
    rw [cnt_cons, if_neg (fun e => h (by simp [keysP, e]))]
    exact cnt_out fun x => h (List.mem_cons_of_mem _ x)
theorem cnt_mem : ∀ {ps : List (Int × Int)} {i c : Int}, (keysP ps).Nodup → (i, c) ∈ ps → cntP ps i = c
  | p :: ps, i, c, hn, h => by
    rw [cnt_cons]
    have hn' := List.nodup_cons.mp hn
    rcases List.mem_cons.mp h with e | h
    · subst e; rw [if_pos rfl]
    · rw [if_neg, cnt_mem hn'.2 h]
      intro e
      exact hn'.1 (List.mem_map.mpr ⟨(i, c), h, e.symm⟩)
theorem cnt_snoc (ps : List (Int × Int)) (i c j : Int) (h : i ∉ keysP ps) : cntP (ps ++ [(i, c)]) j = if j = i then c else cntP ps j := by
  induction ps with
  | nil =>
    rw [List.nil_append, cnt_cons, cnt_nil]
    by_cases e : i = j
    · rw [if_pos e, if_pos e.symm]
    · rw [if_neg e, if_neg (fun x => e x.symm)]
  | cons p ps ih =>
    rw [List.cons_append, cnt_cons, cnt_cons, ih (fun x => h (List.mem_cons_of_mem _ x))]
    by_cases e : p.1 = j
    · rw [if_pos e, if_pos e, if_neg]
      intro x
      apply h
      rw [← x, ← e]; exact List.mem_cons_self
    · rw [if_neg e, if_neg e]
theorem cnt_put (ps : List (Int × Int)) (i c j : Int) : cntP (putP ps i c) j = if j = i then c else cntP ps j := by
  unfold putP
  by_cases q : i ∈ keysP ps
  · rw [if_pos ((any_iff ps i).mpr q)]
    induction ps with
    | nil => cases q
    | cons p ps ih =>
      rw [List.map_cons, cnt_cons, cnt_cons]
      by_cases e : p.1 = i
      · rw [if_pos e]
        dsimp only
        by_cases x : j = i
        · rw [if_pos (e.trans x.symm), if_pos x]
        · have y : ¬ p.1 = j := fun y => x (y.symm.trans e)
          rw [if_neg y, if_neg x, if_neg y]
          by_cases q' : i ∈ keysP ps
          · rw [ih q', if_neg x]
          · congr 1
            conv => rhs; rw [← List.map_id ps]
            apply List.map_congr_left
            intro u hu
            rw [if_neg (fun y => q' (List.mem_map.mpr ⟨u, hu, y⟩))]; rfl
      · rw [if_neg e]
        have q' : i ∈ keysP ps := by
          rcases List.mem_cons.mp q with x | x
          · exact absurd x.symm e
          · exact x
        rw [ih q']
        by_cases x : p.1 = j
        · rw [if_pos x, if_pos x, if_neg (fun y => e (x.trans y))]
        · rw [if_neg x, if_neg x]
  · rw [if_neg (fun x => q ((any_iff ps i).mp x)), cnt_snoc _ _ _ _ q]
theorem mem_fstep (acc : List Int) (x y : Int) : y ∈ fstep acc x ↔ y ∈ acc ∨ y = x := by
  unfold fstep; split
  · rename_i h
    exact ⟨.inl, fun q => q.elim id fun e => e ▸ h⟩
  · simp
theorem mem_fcome : ∀ (l acc : List Int) (y : Int), y ∈ fcome acc l ↔ y ∈ acc ∨ y ∈ l
  | [], acc, y => by simp [fcome]
  | x :: l, acc, y => by
    show y ∈ fcome (fstep acc x) l ↔ _
    rw [mem_fcome l, mem_fstep, List.mem_cons, or_assoc]
theorem nodup_fstep {acc : List Int} (x : Int) (h : acc.Nodup) : (fstep acc x).Nodup := by
  unfold fstep; split
  · exact h
  · rename_i q
    rw [List.nodup_append]
    exact ⟨h, by simp, fun a ha b hb => by rw [List.mem_singleton.mp hb]; rintro rfl; exact q ha⟩
theorem nodup_fcome : ∀ (l : List Int) {acc : List Int}, acc.Nodup → (fcome acc l).Nodup
  | [], _, h => h
  | x :: l, acc, h => nodup_fcome l (nodup_fstep x h)
theorem keys_add : ∀ (qs ps : List (Int × Int)), keysP (addP ps qs) = fcome (keysP ps) (keysP qs)
  | [], ps => rfl
  | q :: qs, ps => by
    show keysP (addP (putP ps q.1 _) qs) = fcome (fstep (keysP ps) q.1) (keysP qs)
    rw [keys_add qs, keys_put]
theorem cnt_add : ∀ (qs ps : List (Int × Int)) (j : Int), (keysP qs).Nodup → cntP (addP ps qs) j = cntP ps j + cntP qs j
  | [], ps, j, _ => by show cntP ps j = _; rw [cnt_nil, Int.add_zero]
  | q :: qs, ps, j, hn => by
    have hn' := List.nodup_cons.mp hn
    show cntP (addP (putP ps q.1 _) qs) j = _
    rw [cnt_add qs _ j hn'.2, cnt_put, cnt_cons]
    by_cases e : q.1 = j
    · have hz : cntP qs j = 0 := cnt_out (by rw [← e]; exact hn'.1)
      rw [if_pos e.symm, if_pos e, hz, e]; omega
    · rw [if_neg (fun x => e x.symm), if_neg e]
structure CntOf (ps : List (Int × Int)) (rs : List Nat) : Prop where
  nd : (keysP ps).Nodup
  mem : ∀ i, i ∈ keysP ps ↔ ∃ r : Nat, r ∈ rs ∧ i = r
  cnt : ∀ r : Nat, cntP ps r = (rs.count r : Int)
theorem CntOf.nil : CntOf [] [] := ⟨List.nodup_nil, fun i => by simp [keysP], fun r => rfl⟩
theorem CntOf.add {ps qs : List (Int × Int)} {a c : List Nat} (h : CntOf ps a) (g : CntOf qs c) : CntOf (addP ps qs) (a ++ c) where
  nd := by rw [keys_add]; exact nodup_fcome _ h.nd
  mem := fun i => by
    rw [keys_add, mem_fcome, h.mem, g.mem]
    constructor
    · rintro (⟨r, x, y⟩ | ⟨r, x, y⟩)
      · exact ⟨r, List.mem_append_left _ x, y⟩
      · exact ⟨r, List.mem_append_right _ x, y⟩
    · rintro ⟨r, x, y⟩
      rcases List.mem_append.mp x with x | x
      · exact .inl ⟨r, x, y⟩
      · exact .inr ⟨r, x, y⟩
  cnt := fun r => by rw [cnt_add _ _ _ g.nd, h.cnt, g.cnt, List.count_append]; omega
theorem CntOf.of_perm {ps : List (Int × Int)} {a c : List Nat} (h : CntOf ps a) (p : a.Perm c) : CntOf ps c :=
  ⟨h.nd, fun i => by rw [h.mem]; exact ⟨fun ⟨r, x, y⟩ => ⟨r, p.mem_iff.mp x, y⟩, fun ⟨r, x, y⟩ => ⟨r, p.mem_iff.mpr x, y⟩⟩, fun r => by rw [h.cnt, p.count_eq]⟩
theorem perm_of_nodup {a c : List Int} (h1 : a.Nodup) (h2 : c.Nodup) (h : ∀ i, i ∈ a ↔ i ∈ c) : a.Perm c := by
  rw [List.perm_iff_count]
  intro i
  by_cases q : i ∈ a
  · rw [h1.count, h2.count, if_pos q, if_pos ((h i).mp q)]
  · rw [h1.count, h2.count, if_neg q, if_neg (fun x => q ((h i).mpr x))]
theorem CntOf.same {ps qs : List (Int × Int)} {a : List Nat} (h : CntOf ps a) (g : CntOf qs a) : ps.length = qs.length ∧ ∀ i, i ∈ keysP ps → i ∈ keysP qs ∧ cntP qs i = cntP ps i := by
  refine ⟨?_, fun i hi => ?_⟩
  · have := (perm_of_nodup h.nd g.nd fun i => (h.mem i).trans (g.mem i).symm).length_eq
    simpa [keysP] using this
  · obtain ⟨r, x, rfl⟩ := (h.mem i).mp hi
    exact ⟨(g.mem _).mpr ⟨r, x, rfl⟩, by rw [h.cnt, g.cnt]⟩
def entP (rs : List Nat) : List (Int × Int) := tabW (cntL rs) (cntL rs).length
theorem tab_pair (cnt : List Int) : ∀ j, (keysP (tabW cnt j)).Pairwise (· < ·)
  | 0 => List.Pairwise.nil
  | j + 1 => by
    unfold tabW
    split
    · rw [List.append_nil]; exact tab_pair cnt j
    · show (List.map _ (_ ++ _)).Pairwise _
      rw [List.map_append, List.pairwise_append]
      refine ⟨tab_pair cnt j, by simp, fun a ha b hb => ?_⟩
      obtain ⟨p, hp, rfl⟩ := List.mem_map.mp ha
      rw [List.map_cons, List.map_nil, List.mem_singleton] at hb
      rw [hb]
      exact (tabW_lt cnt j p hp).2
theorem tab_mem (cnt : List Int) : ∀ (j : Nat) (i : Int), i ∈ keysP (tabW cnt j) ↔ 0 ≤ i ∧ i < j ∧ cnt.getD i.toNat 0 ≠ 0
  | 0, i => by simp [tabW, keysP]; omega
  | j + 1, i => by
    unfold tabW
    show i ∈ List.map _ (_ ++ _) ↔ _
    rw [List.map_append, List.mem_append]
    have ih : i ∈ List.map (fun x => x.1) (tabW cnt j) ↔ _ := tab_mem cnt j i
    rw [ih]
    by_cases e : i = j
    · subst e
      split
      · rename_i q
        simp only [List.map_nil, List.not_mem_nil, or_false, Int.toNat_natCast]
        constructor
        · rintro ⟨_, h, _⟩; omega
        · rintro ⟨_, _, h⟩; exact absurd q h
      · rename_i q
        simp only [List.map_cons, List.map_nil, List.mem_singleton, Int.toNat_natCast]
        constructor
        · intro _; exact ⟨by omega, by omega, q⟩
        · intro _; exact .inr trivial
    · have : i ∉ List.map (fun x => x.1) (if cnt.getD j 0 = 0 then ([] : List (Int × Int)) else [((j : Int), cnt.getD j 0)]) := by
        split
        · simp
        · simpa using e
      constructor
      · rintro (⟨a, b, c⟩ | h)
        · exact ⟨a, by omega, c⟩
        · exact absurd h this
      · rintro ⟨a, b, c⟩; exact .inl ⟨a, by omega, c⟩
theorem tab_cnt (cnt : List Int) : ∀ (j i : Nat), cntP (tabW cnt j) i = if i < j then cnt.getD i 0 else 0
  | 0, i => by simp [tabW, cnt_nil]
  | j + 1, i => by
    unfold tabW
    split
    · rename_i q
      rw [List.append_nil, tab_cnt cnt j i]
      by_cases e : i = j
      · subst e; rw [if_neg (Nat.lt_irrefl _), if_pos (Nat.lt_succ_self _), q]
      · by_cases h : i < j
        · rw [if_pos h, if_pos (by omega)]
        · rw [if_neg h, if_neg (by omega)]
    · rename_i q
      rw [cnt_snoc _ _ _ _ (fun h => by have := ((tab_mem cnt j _).mp h).2.1; omega), tab_cnt cnt j i]
      by_cases e : i = j
      · subst e; rw [if_pos rfl, if_pos (Nat.lt_succ_self _)]
      · rw [if_neg (by omega)]
        by_cases h : i < j
        · rw [if_pos h, if_pos (by omega)]
        · rw [if_neg h, if_neg (by omega)]
theorem ent_cntOf (rs : List Nat) : CntOf (entP rs) rs where
  nd := (tab_pair _ _).imp fun h => by omega
  mem := fun i => by
    unfold entP
    rw [tab_mem, cntL_get, cntL_len]
    constructor
    · rintro ⟨a, b, c⟩
      refine ⟨i.toNat, ?_, by omega⟩
      apply Classical.byContradiction
      intro q
      rw [List.count_eq_zero.mpr q] at c
      exact c rfl
    · rintro ⟨r, hr, rfl⟩
      refine ⟨by omega, ?_, ?_⟩
      · have := lt_mx.mpr ⟨r, hr, Nat.le_refl _⟩; omega
      · have := List.count_pos_iff.mpr hr
        rw [Int.toNat_natCast]; omega
  cnt := fun r => by
    unfold entP
    rw [tab_cnt, cntL_len, cntL_get]
    by_cases h : r < mx rs
    · rw [if_pos h]
    · rw [if_neg h]
      have : r ∉ rs := fun q => h (lt_mx.mpr ⟨r, q, Nat.le_refl _⟩)
      rw [List.count_eq_zero.mpr this]; rfl
def dueF (f : Int → Int) (l : List Int) : List (Int × Int) := l.foldl (fun ps r => putP ps r (f r)) []
def castL (rs : List Nat) : List Int := rs.map fun r : Nat => (r : Int)
theorem count_cast (rs : List Nat) (r : Nat) : (castL rs).count (r : Int) = rs.count r := by
  induction rs with
  | nil => rfl
  | cons x rs ih =>
    show ((x : Int) :: castL rs).count (r : Int) = _
    rw [List.count_cons, List.count_cons, ih]
    by_cases e : x = r
    · subst e; simp
    · have : ¬ (x : Int) = r := by omega
      simp [e, this]
theorem due_snoc (f : Int → Int) (l : List Int) (r : Int) : dueF f (l ++ [r]) = putP (dueF f l) r (f r) := by unfold dueF; rw [List.foldl_append]; rfl
theorem due_keys (f : Int → Int) (l : List Int) : keysP (dueF f l) = fcome [] l := by
  have : ∀ (l : List Int) (ps : List (Int × Int)), keysP (l.foldl (fun ps r => putP ps r (f r)) ps) = fcome (keysP ps) l := by
    intro l
    induction l with
    | nil => intro ps; rfl
    | cons x l ih => intro ps; rw [List.foldl_cons, ih, keys_put]; rfl
  exact this l []
theorem due_cnt (f : Int → Int) (l : List Int) (i : Int) : cntP (dueF f l) i = if i ∈ l then f i else 0 := by
  have : ∀ (l : List Int) (ps : List (Int × Int)), cntP (l.foldl (fun ps r => putP ps r (f r)) ps) i = if i ∈ l then f i else cntP ps i := by
    intro l
    induction l with
    | nil => intro ps; simp
    | cons x l ih =>
      intro ps
      rw [List.foldl_cons, ih, cnt_put]
      by_cases h : i ∈ l
      · rw [if_pos h, if_pos (List.mem_cons_of_mem _ h)]
      · rw [if_neg h]
        by_cases e : i = x
        · subst e; rw [if_pos rfl, if_pos List.mem_cons_self]
        · rw [if_neg e, if_neg (by simp [e, h])]
  exact this l []
def dueP (rs : List Nat) : List (Int × Int) := dueF (fun i => ((castL rs).count i : Int)) (castL rs)
theorem due_cntOf (rs : List Nat) : CntOf (dueP rs) rs where
  nd := by unfold dueP; rw [due_keys]; exact nodup_fcome _ List.nodup_nil
  mem := fun i => by
    unfold dueP
    rw [due_keys, mem_fcome]
    simp only [castL, List.not_mem_nil, false_or, List.mem_map]
    exact ⟨fun ⟨r, a, b⟩ => ⟨r, a, b.symm⟩, fun ⟨r, a, b⟩ => ⟨r, a, b.symm⟩⟩
  cnt := fun r => by
    unfold dueP
    rw [due_cnt, count_cast]
    by_cases h : (r : Int) ∈ castL rs
    · rw [if_pos h]
    · rw [if_neg h]
      have : r ∉ rs := fun q => h (List.mem_map.mpr ⟨r, q, rfl⟩)
      rw [List.count_eq_zero.mpr this]; rfl
theorem fcome_sorted : ∀ (l s acc : List Int), l.Pairwise (· ≤ ·) → s.Pairwise (· < ·) → (∀ i, i ∈ l ↔ i ∈ s) → fcome acc l = fcome acc s
  | [], s, acc, _, _, h => by
    cases s with
    | nil => rfl
    | cons x s => exact absurd ((h x).mpr List.mem_cons_self) (by simp)
  | x :: l, s, acc, hl, hs, h => by
    have hl' := List.pairwise_cons.mp hl
    cases s with
    | nil => exact absurd ((h x).mp List.mem_cons_self) (by simp)
    | cons y s =>
      have hs' := List.pairwise_cons.mp hs
      have hxy : x = y := by
        have h1 : y ≤ x := by
          rcases List.mem_cons.mp ((h x).mp List.mem_cons_self) with e | e
          · omega
          · have := hs'.1 x e; omega
        have h2 : x ≤ y := by
          rcases List.mem_cons.mp ((h y).mpr List.mem_cons_self) with e | e
          · omega
          · exact hl'.1 y e
        omega
      subst hxy
      by_cases q : x ∈ l
      · have e : fcome acc (x :: l) = fcome (fstep acc x) (x :: s) := by
          show fcome (fstep acc x) l = _
          apply fcome_sorted l (x :: s) _ hl'.2 hs
          intro i
          rw [← h i, List.mem_cons]
          exact ⟨.inr, fun z => z.elim (fun e => e ▸ q) id⟩
        rw [e]
        show fcome (fstep (fstep acc x) x) s = fcome (fstep acc x) s
        have : fstep (fstep acc x) x = fstep acc x := by
          rw [fstep]; rw [if_pos ((mem_fstep acc x x).mpr (.inr rfl))]
        rw [this]
      · show fcome (fstep acc x) l = fcome (fstep acc x) s
        apply fcome_sorted l s _ hl'.2 hs'.2
        intro i
        have hxs : x ∉ s := fun z => by have := hs'.1 x z; omega
        have := h i
        simp only [List.mem_cons] at this
        by_cases e : i = x
        · subst e; exact ⟨fun z => absurd z q, fun z => absurd z hxs⟩
        · simpa [e] using this
noncomputable def fdDue : FuncData := fdGet 139 rfl
noncomputable def fdFirst : FuncData := fdGet 144 rfl
theorem sum_size {y : Str} {l : List Nat} (h : y.cps.toList = l) : y.length = l.length := by rw [← h]; exact (Array.length_toList ..).symm
theorem ints_of_lens : ∀ {vs : List Value} {ys : List Str} {ws : List Value}, StrsAre vs ys → Paired (fun v r => ∃ y t t', v = .str y t ∧ r = .int (y.length : Int) t') vs ws → IntsAre ws (ys.map fun y => (y.length : Int))
  | _, _, _, .nil, .nil => .nil
  | _, _, _, .cons y t h, .cons ⟨y', t1, t2, e1, e2⟩ g => by
    cases e1; subst e2
    exact .cons _ _ (ints_of_lens h g)
theorem strs_take : ∀ {vs : List Value} {ys : List Str} (n : Nat), StrsAre vs ys → StrsAre (vs.take n) (ys.take n)
  | _, _, 0, _ => by simp; exact .nil
  | _, _, n + 1, .nil => by simp; exact .nil
  | _, _, n + 1, .cons y t h => by rw [List.take_succ_cons, List.take_succ_cons]; exact .cons y t (strs_take n h)
theorem strs_length : ∀ {vs : List Value} {ys : List Str}, StrsAre vs ys → vs.length = ys.length
  | _, _, .nil => rfl
  | _, _, .cons y t h => by rw [List.length_cons, List.length_cons, strs_length h]
theorem strs_mem : ∀ {vs : List Value} {ys : List Str}, StrsAre vs ys → ∀ v ∈ vs, ∃ y t, v = .str y t ∧ y ∈ ys
  | _, _, .nil, v, h => by cases h
  | _, _, .cons y t g, v, h => by
    rcases List.mem_cons.mp h with rfl | h
    · exact ⟨y, t, rfl, List.mem_cons_self⟩
    · obtain ⟨y', t', e, q⟩ := strs_mem g v h
      exact ⟨y', t', e, List.mem_cons_of_mem _ q⟩
theorem lens_enc {y : Str} {rs : List Nat} {b : Nat} (h : y.cps.toList = enc rs b) : ((Txt.split y (Str.ofString "\t")).take ((Txt.split y (Str.ofString "\t")).length - 1)).map (fun y => (y.length : Int)) = castL rs := by
  have e := split_lens h
  have hl : (Txt.split y (Str.ofString "\t")).length = rs.length + 1 := by
    have := congrArg List.length e
    simpa using this
  rw [hl, Nat.add_sub_cancel]
  have e2 : ((Txt.split y (Str.ofString "\t")).take rs.length).map (·.length) = rs := by
    rw [List.map_take, e, List.take_left]
  unfold castL
  conv => rhs; rw [← e2]
  rw [List.map_map]
  rfl
theorem rs_len_le (rs : List Nat) : rs.length ≤ wid rs := by
  induction rs with
  | nil => simp [wid]
  | cons r rs ih => rw [wid_cons, List.length_cons]; omega
theorem rs_le (rs : List Nat) : ∀ r ∈ rs, r ≤ wid rs := by
  induction rs with
  | nil => intro r h; cases h
  | cons x rs ih =>
    intro r h
    rw [wid_cons]
    rcases List.mem_cons.mp h with rfl | h
    · omega
    · have := ih r h; omega
theorem due_len_le (f : Int → Int) : ∀ l : List Int, (dueF f l).length ≤ l.length := by
  have key : ∀ (l : List Int) (ps : List (Int × Int)), (l.foldl (fun ps r => putP ps r (f r)) ps).length ≤ ps.length + l.length := by
    intro l
    induction l with
    | nil => intro ps; simp
    | cons x l ih =>
      intro ps
      rw [List.foldl_cons]
      have h1 := ih (putP ps x (f x))
      have h2 : (putP ps x (f x)).length ≤ ps.length + 1 := by
        unfold putP; split <;> simp
      rw [List.length_cons]; omega
  intro l; have := key l []; simpa [dueF] using this
section
variable {w : World} {R : Shared → Shared → Prop} {s₀ s : Shared} {L : Addr} {m : Str → Option Value} {k₀ k : Heap} {mu : List (Addr × Obj)} {A : Around} {env : Env}
end
set_option maxHeartbeats 2000000 in
theorem due_spec {w : World} {R : Shared → Shared → Prop} {s : Shared} {k : Heap} {A : Around} {y : Str} {t t3 : Tok} {rs : List Nat} {b : Nat} {vz : Value} {z tot : Int} (hR : Rel w R) (C : Cx w k s) (a : Ar A 3) (hy : y.cps.toList = enc rs b) (hz : wid rs + b ≤ 900)
    (hsz : SizesAt k vz z) (hz1 : 1 ≤ z) (hz2 : z ≤ 100) :
    wpAny (model Pr w) A (call (.ref 139) [.str y t, vz, .int tot t3]) (Ret R s k (fun k' v => Ent w tot z k' v (fun ts => lev ts rs b) (dueP rs))) (fun _ _ => False) s := by
  obtain ⟨ls, u1, u2, u3, u4, rfl, hls⟩ := hsz
  have hyl : y.length = wid rs + b := by rw [sum_size hy, enc_len]
  refine enter_c (fd := fdDue) (binds := [("text", .str y t), ("sizes", .ref ls), ("total", .int tot t3)]) hR C a rfl rfl rfl rfl rfl ?_ (fun A' L s₁ a' F hcell => ?_)
  · intro x hx
    simp only [List.mem_cons, List.not_mem_nil, or_false] at hx
    rcases hx with rfl | rfl | rfl
    · exact .inr ⟨rfl, rfl⟩
    · exact .inl rfl
    · exact .inl rfl
  obtain ⟨k1, hs1, hcl, F⟩ := F.cellK (by simp) (hcell "text" (L + 1) rfl)
  have hcl : k1.IsCell (L + 1) (some (.str y t)) := hcl
  refine xs_comp (cl := []) rfl ?_
  repeat' walk_at "ev"
  rename Fm _ _ _ _ _ _ _ _ _ => F
  refine e_cell (IsCell.mono hcl F.led) ?_
  refine GM.split ?_
  repeat' walk_at "ev"
  rename Fm _ _ _ _ _ _ _ _ _ => F
  refine c_split F (by rw [tab_is]; rfl) (by omega) fun d1 vs1 s2 hvs1 F => ?_
  refine e_slice ?_
  refine p_none (p_some (UnaryOp_ ?_))
  repeat' walk_at "ev"
  rename Fm _ _ _ _ _ _ _ _ _ => F
  refine o_neg F fun t5 s3 F => p_none ?_
  have hl1 : vs1.length = (Txt.split y (Str.ofString "\t")).length := strs_length hvs1
  have hl2 : (Txt.split y (Str.ofString "\t")).length = rs.length + 1 := by
    have := congrArg List.length (split_lens hy)
    simpa using this
  have hrl := rs_len_le rs
  refine o_slice F ((isL_mk _ _).at F.at0) (by omega) .none (.int _ _) .none (by simp) fun d2 s4 F => ?_
  rw [show (-1 : Int) = -((1 : Nat) : Int) from rfl, slicePick_butLast _ _ (by decide)] at F
  simp only [List.size_toArray] at F
  obtain ⟨k2, hs2, hk2, F⟩ := F.freeze
  refine comp_list (vs := vs1.take (vs1.length - 1)) F a'.hd ((isL_mk _ _).at hk2) (by rw [List.length_take]; omega) (fun v r => ∃ y t t', v = .str y t ∧ r = .int (y.length : Int) t') ?_ ?_
  · rintro v C mc k3 mu3 s5 hv hs3 hmc F
    obtain ⟨yv, tv, rfl, hyv⟩ := strs_mem hvs1 v (List.mem_of_mem_take hv)
    repeat' walk_at "ev"
    rename Fm _ _ _ _ _ _ _ _ _ => F
    refine c_lenS F ?_ fun t6 s6 F => ?_
    · have := part_short hyv; omega
    exact elt_of F (Sub.refl _) ⟨yv, tv, t6, rfl, rfl⟩
  intro D n' ys k3 C mc s5 hp hs3
  have hI := ints_of_lens (strs_take _ hvs1) hp
  rw [hl1, lens_enc hy] at hI
  have hys := hI.length
  rw [show (castL rs).length = rs.length from List.length_map ..] at hys
  refine behind_assign fun s6 F => ?_
  have F := F.drop1
  obtain ⟨k4, hs4, hk4, F⟩ := F.freeze
  have hcl4 := IsCell.mono hcl (hs2.trans (hs3.trans hs4))
  repeat' walk_at "ev"
  rename Fm _ _ _ _ _ _ _ _ _ => F
  refine e_dict0 F fun d od s7 hod F => ?_
  repeat' walk_at "ev"
  rename Fm _ _ _ _ _ _ _ _ _ => F
  refine loop_list F a'.hd ((isL_mk _ _).at hk4) (fun i m k' mu => m "sizes" = some (.ref ls) ∧ m "lengths" = some (.ref D) ∧ m "total" = some (.int tot t3) ∧ m "table" = some (.ref d) ∧ ∃ (o : Obj) (kvs : List (Int × Value)), mu = [(d, o)] ∧ IsD w o kvs ∧ TabV tot k' kvs (dueF (fun i => ((castL rs).count i : Int)) ((castL rs).take i)))
    ⟨by walk_at "lk", by walk_at "lk", by walk_at "lk", by walk_at "lk", od, [], rfl, hod, trivial⟩ ?_ ?_
  · rintro i v I o' m k5 mu' s8 hv hsub ⟨hsizes, hlengths, htotal, htable, o, kvs, rfl, hkd, htv⟩ F
    have hilt : i < rs.length := by
      have : i < ys.length := by
        rcases Nat.lt_or_ge i ys.length with h | h
        · exact h
        · rw [List.getElem?_toArray, List.getElem?_eq_none h] at hv; cases hv
      omega
    obtain ⟨ti, hvi⟩ := hI.get i (rs[i] : Int) (by simp [castL, hilt])
    rw [List.getElem?_toArray, hvi] at hv
    cases hv
    have hri : rs[i] ≤ wid rs := rs_le rs _ (List.getElem_mem hilt)
    have hcnt : (castL rs).count (rs[i] : Int) ≤ rs.length := by rw [count_cast]; exact List.count_le_length ..
    have hlen := htv.len
    have hlen' := due_len_le (fun i => ((castL rs).count i : Int)) ((castL rs).take i)
    rw [List.length_take] at hlen'
    repeat' walk_at "ev"
    rename Fm _ _ _ _ _ _ _ _ _ => F
    refine gm_L PySem.F.slot_list_count ty_count (F.led _ _ (hsub _ _ hk4)) ?_
    repeat' walk_at "ev"
    rename Fm _ _ _ _ _ _ _ _ _ => F
    refine c_count F (IsList.mono ((isL_mk _ _).at hk4) (hsub.trans F.led)) hI fun t6 s9 F => ?_
    repeat' walk_at "ev"
    rename Fm _ _ _ _ _ _ _ _ _ => F
    refine use_ret F (caller_spec hR F.cx (a'.le (by decide)) (by omega) (by omega)) ?_
    rintro vc k6 s10 hs6 hcal F
    repeat' walk_at "ev"
    rename Fm _ _ _ _ _ _ _ _ _ => F
    refine o_setD F hkd (by omega) fun o2 s' hkd2 F => ?_
    repeat' walk_at "ev"
    rename Fm _ _ _ _ _ _ _ _ _ => F
    refine turn_next (mu := [(d, o2)]) F (hsub.trans hs6) ⟨by walk_at "lk", by walk_at "lk", by walk_at "lk", by walk_at "lk", o2, _, rfl, hkd2, ?_⟩
    have e : (castL rs).take (i + 1) = (castL rs).take i ++ [(rs[i] : Int)] := by
      rw [List.take_add_one]
      have : (castL rs)[i]? = some (rs[i] : Int) := by simp [castL, hilt]
      rw [this]; rfl
    rw [e, due_snoc]
    exact (htv.mono hs6).put hcal
  · rintro m k5 mu' s8 ⟨hsizes, hlengths, htotal, htable, o, kvs, rfl, hkd, htv⟩ hsub F
    rw [List.size_toArray, hys, show (castL rs).take rs.length = castL rs from by rw [show rs.length = (castL rs).length from (List.length_map ..).symm, List.take_length]] at htv
    refine xs_comp (cl := [("text", L + 1)]) rfl ?_
    repeat' walk_at "ev"
    rename Fm _ _ _ _ _ _ _ _ _ => F
    have hls' := IsList.mono hls (hs1.trans (hs2.trans (hs3.trans (hs4.trans hsub))))
    refine comp_list F a'.hd hls' (by simp) (fun v y => ∃ i t t', v = .int i t ∧ y = .int (lev i rs b) t') ?_ ?_
    · rintro v C mc k6 mu3 s9 hv hs6 hmc F
      have hvi : ∃ i t, v = .int i t ∧ 1 ≤ i ∧ i ≤ 100 := by
        simp only [List.mem_cons, List.not_mem_nil, or_false] at hv
        rcases hv with rfl | rfl | rfl | rfl
        · exact ⟨_, _, rfl, by decide, by decide⟩
        · exact ⟨_, _, rfl, by decide, by decide⟩
        · exact ⟨_, _, rfl, by decide, by decide⟩
        · exact ⟨_, _, rfl, hz1, hz2⟩
      obtain ⟨i, ti, rfl, hi1, hi2⟩ := hvi
      repeat' walk_at "ev"
      rename Fm _ _ _ _ _ _ _ _ _ => F
      refine e_cell (IsCell.mono hcl4 (hsub.trans (hs6.trans F.led))) ?_
      repeat' walk_at "ev"
      rename Fm _ _ _ _ _ _ _ _ _ => F
      refine use_ret F (column_spec hR F.cx (a'.le (by decide)) hi1) ?_
      rintro _ k7 s10 hs7 ⟨t7, rfl⟩ F
      rw [hy, col_enc hi1]
      exact elt_of F hs7 ⟨i, ti, t7, rfl, rfl⟩
    · intro D2 n2 ys2 k6 C mc s9 hp2 hs6
      obtain ⟨y1, y2, y3, y4, rfl, ⟨_, _, w1, e1, rfl⟩, ⟨_, _, w2, e2, rfl⟩, ⟨_, _, w3, e3, rfl⟩, ⟨_, _, w4, e4, rfl⟩⟩ := paired4 hp2
      cases e1; cases e2; cases e3; cases e4
      refine behind_assign fun s6 F => ?_
      repeat' walk_at "ev"
      rename Fm _ _ _ _ _ _ _ _ _ => F
      refine o_getL ((isL_mk _ _).at F.at0) (by decide) (by decide) rfl ?_
      repeat' walk_at "ev"
      rename Fm _ _ _ _ _ _ _ _ _ => F
      refine o_getL ((isL_mk _ _).at F.at0) (by decide) (by decide) rfl ?_
      repeat' walk_at "ev"
      rename Fm _ _ _ _ _ _ _ _ _ => F
      refine o_getL ((isL_mk _ _).at F.at0) (by decide) (by decide) rfl ?_
      repeat' walk_at "ev"
      rename Fm _ _ _ _ _ _ _ _ _ => F
      refine o_getL ((isL_mk _ _).at F.at0) (by decide) (by decide) rfl ?_
      repeat' walk_at "ev"
      rename Fm _ _ _ _ _ _ _ _ _ => F
      refine o_tuple F (by exact Nat.le_of_ble_eq_true rfl) fun dt s' F => ?_
      have hnm := F.drop.drop.nsm
      obtain ⟨k7, hs7, hk7, F⟩ := F.freeze
      have F := F.drop
      obtain ⟨k8, hs8, hk8, F⟩ := F.freeze
      refine Fin.ret (Ret.of F ⟨dt, d, w1, w2, w3, w4, rfl, IsTup.mono ((isT_mk _ 0).at hk7) hs8, hnm, kvs, hkd.at hk8, htv.mono (hs6.trans (hs7.trans hs8))⟩)
def EncAll : List Value → List (List Nat × Nat) → Prop
  | [], [] => True
  | v :: vs, p :: ps => (∃ y t, v = .str y t ∧ y.cps.toList = enc p.1 p.2) ∧ EncAll vs ps
  | _, _ => False
def TextsAt (k : Heap) (v : Value) (ts : List (List Nat × Nat)) : Prop := ∃ (l : Addr) (vs : List Value), v = .ref l ∧ k.IsList l vs.toArray ∧ EncAll vs ts
theorem TextsAt.mono {k k' : Heap} {v : Value} {ts : List (List Nat × Nat)} (h : TextsAt k v ts) (hs : Sub k k') : TextsAt k' v ts := let ⟨l, vs, e, g, q⟩ := h; ⟨l, vs, e, IsList.mono g hs, q⟩
theorem EncAll.len : ∀ {vs : List Value} {ts : List (List Nat × Nat)}, EncAll vs ts → vs.length = ts.length
  | [], [], _ => rfl
  | v :: vs, p :: ps, ⟨_, h⟩ => by rw [List.length_cons, List.length_cons, EncAll.len h]
  | [], _ :: _, h => h.elim
  | _ :: _, [], h => h.elim
theorem EncAll.at : ∀ {vs : List Value} {ts : List (List Nat × Nat)} (i : Nat) {v : Value}, EncAll vs ts → vs[i]? = some v → ∃ p y t, ts[i]? = some p ∧ v = .str y t ∧ y.cps.toList = enc p.1 p.2
  | [], [], i, v, _, h => by simp at h
  | v' :: vs, p :: ps, 0, v, ⟨⟨y, t, e, g⟩, _⟩, h => by
    simp only [List.getElem?_cons_zero, Option.some.injEq] at h
    subst h
    exact ⟨p, y, t, rfl, e, g⟩
  | v' :: vs, p :: ps, i + 1, v, ⟨_, hr⟩, h => by
    simp only [List.getElem?_cons_succ] at h ⊢
    exact EncAll.at i hr h
  | [], _ :: _, _, _, h, _ => h.elim
  | _ :: _, [], _, _, h, _ => h.elim
theorem EncAll.take : ∀ {vs : List Value} {ts : List (List Nat × Nat)} (n : Nat), EncAll vs ts → EncAll (vs.take n) (ts.take n)
  | [], [], n, _ => by simp [EncAll]
  | v :: vs, p :: ps, 0, _ => by simp [EncAll]
  | v :: vs, p :: ps, n + 1, ⟨a, h⟩ => by rw [List.take_succ_cons, List.take_succ_cons]; exact ⟨a, EncAll.take n h⟩
  | [], _ :: _, _, h => h.elim
  | _ :: _, [], _, h => h.elim
theorem EncAll.drop : ∀ {vs : List Value} {ts : List (List Nat × Nat)} (n : Nat), EncAll vs ts → EncAll (vs.drop n) (ts.drop n)
  | [], [], n, _ => by simp [EncAll]
  | v :: vs, p :: ps, 0, h => h
  | v :: vs, p :: ps, n + 1, ⟨a, h⟩ => by rw [List.drop_succ_cons, List.drop_succ_cons]; exact EncAll.drop n h
  | [], _ :: _, _, h => h.elim
  | _ :: _, [], _, h => h.elim
theorem EncAll.append : ∀ {vs us : List Value} {ts qs : List (List Nat × Nat)}, EncAll vs ts → EncAll us qs → EncAll (vs ++ us) (ts ++ qs)
  | [], _, [], _, _, g => g
  | v :: vs, _, p :: ps, _, ⟨a, h⟩, g => ⟨a, EncAll.append h g⟩
  | [], _, _ :: _, _, h, _ => h.elim
  | _ :: _, _, [], _, h, _ => h.elim
theorem EncAll.reverse : ∀ {vs : List Value} {ts : List (List Nat × Nat)}, EncAll vs ts → EncAll vs.reverse ts.reverse
  | [], [], _ => trivial
  | v :: vs, p :: ps, ⟨a, h⟩ => by rw [List.reverse_cons, List.reverse_cons]; exact (EncAll.reverse h).append ⟨a, trivial⟩
  | [], _ :: _, h => h.elim
  | _ :: _, [], h => h.elim
def Small (ts : List (List Nat × Nat)) : Prop := ts.length ≤ 8 ∧ ∀ p ∈ ts, wid p.1 + p.2 ≤ 20
def fcT (ts : List (List Nat × Nat)) : List Int := ts.foldl (fun acc p => fcome acc (keysP (entP p.1))) []
theorem fcT_take {ts : List (List Nat × Nat)} {i : Nat} {p : List Nat × Nat} (h : ts[i]? = some p) : fcT (ts.take (i + 1)) = fcome (fcT (ts.take i)) (keysP (entP p.1)) := by
  unfold fcT; rw [List.take_add_one, h, Option.toList_some, List.foldl_append]; rfl
theorem fcome_len (l : List Int) : ∀ acc : List Int, (fcome acc l).length ≤ acc.length + l.length := by
  induction l with
  | nil => intro acc; exact Nat.le_refl _
  | cons x l ih =>
    intro acc
    have h1 := ih (fstep acc x)
    have h2 : (fstep acc x).length ≤ acc.length + 1 := by unfold fstep; split <;> simp
    show (fcome (fstep acc x) l).length ≤ _
    rw [List.length_cons]; omega
theorem ent_len (rs : List Nat) : (entP rs).length ≤ wid rs := by
  have h1 := tabW_len (cntL rs) (cntL rs).length
  unfold entP
  rw [cntL_len] at *
  have : mx rs ≤ wid rs := by
    rcases Nat.lt_or_ge (wid rs) (mx rs) with h | h
    · obtain ⟨r, hr, q⟩ := lt_mx.mp h
      have : r < wid rs := by
        clear h h1 q
        induction rs with
        | nil => cases hr
        | cons x rs ih =>
          rw [wid_cons]
          rcases List.mem_cons.mp hr with rfl | hr
          · omega
          · have := ih hr; omega
      omega
    · exact h
  omega
theorem fcT_len : ∀ ts : List (List Nat × Nat), (∀ p ∈ ts, wid p.1 + p.2 ≤ 20) → (fcT ts).length ≤ 20 * ts.length := by
  have key : ∀ (ts : List (List Nat × Nat)) (acc : List Int), (∀ p ∈ ts, wid p.1 + p.2 ≤ 20) → (ts.foldl (fun acc p => fcome acc (keysP (entP p.1))) acc).length ≤ acc.length + 20 * ts.length := by
    intro ts
    induction ts with
    | nil => intro acc _; simp
    | cons p ts ih =>
      intro acc h
      have h1 := ih (fcome acc (keysP (entP p.1))) fun q hq => h q (List.mem_cons_of_mem _ hq)
      have h2 := fcome_len (keysP (entP p.1)) acc
      have h3 := ent_len p.1
      have h4 := h p List.mem_cons_self
      have h5 : (keysP (entP p.1)).length = (entP p.1).length := List.length_map ..
      rw [List.foldl_cons, List.length_cons]; omega
  intro ts h
  have := key ts [] h
  simpa [fcT] using this
def IntsAt (k : Heap) (v : Value) (ns : List Int) : Prop := ∃ (l : Addr) (vs : List Value), v = .ref l ∧ k.IsList l vs.toArray ∧ IntsAre vs ns
theorem IntsAt.mono {k k' : Heap} {v : Value} {ns : List Int} (h : IntsAt k v ns) (hs : Sub k k') : IntsAt k' v ns := let ⟨l, vs, e, g, q⟩ := h; ⟨l, vs, e, IsList.mono g hs, q⟩
set_option maxHeartbeats 2000000 in
theorem first_spec {w : World} {R : Shared → Shared → Prop} {s : Shared} {k : Heap} {A : Around} {vt : Value} {ts : List (List Nat × Nat)} (hR : Rel w R) (C : Cx w k s) (a : Ar A 2) (ht : TextsAt k vt ts) (hsm : Small ts) :
    wpAny (model Pr w) A (call (.ref 144) [vt]) (Ret R s k (fun k' v => IntsAt k' v (fcT ts))) (fun _ _ => False) s := by
  obtain ⟨lt, vts, rfl, hlt, henc⟩ := ht
  have hel := henc.len
  have hfl : ∀ i, (fcT (ts.take i)).length ≤ 160 := fun i => by
    have h1 := fcT_len (ts.take i) fun p hp => hsm.2 p (List.mem_of_mem_take hp)
    have h2 := hsm.1
    rw [List.length_take] at h1
    omega
  refine enter (fd := fdFirst) (binds := [("texts", .ref lt)]) hR C a rfl rfl rfl (BindsTo.of_eq rfl) (by decide) (locs rfl) (fun A' L s₁ a' F => ?_)
  repeat' walk_at "ev"
  rename Fm _ _ _ _ _ _ _ _ _ => F
  refine o_list F (by exact Nat.zero_le _) fun d s1 F => ?_
  repeat' walk_at "ev"
  rename Fm _ _ _ _ _ _ _ _ _ => F
  refine loop_list F a'.hd hlt (fun i m k' mu => m "lengths" = some (.ref d) ∧ ∃ (vs : List Value) (n : Nat), mu = [(d, lst vs n)] ∧ IntsAre vs (fcT (ts.take i))) ⟨by walk_at "lk", [], 0, rfl, .nil⟩ ?_ ?_
  · rintro i v I o' m k1 mu' s2 hv hsub ⟨hlengths, vs, n, rfl, hI⟩ F
    obtain ⟨p, y, t, hp, rfl, hy⟩ := henc.at i (by simpa using hv)
    have hpb := hsm.2 p (List.mem_of_getElem? hp)
    have hyl : y.length = wid p.1 + p.2 := by rw [sum_size hy, enc_len]
    repeat' walk_at "ev"
    rename Fm _ _ _ _ _ _ _ _ _ => F
    refine e_comp (cl := []) rfl ?_
    repeat' walk_at "ev"
    rename Fm _ _ _ _ _ _ _ _ _ => F
    refine GM.split ?_
    repeat' walk_at "ev"
    rename Fm _ _ _ _ _ _ _ _ _ => F
    refine c_split F (by rw [tab_is]; rfl) (by omega) fun d1 vs1 s2 hvs1 F => ?_
    refine e_slice ?_
    refine p_none (p_some (UnaryOp_ ?_))
    repeat' walk_at "ev"
    rename Fm _ _ _ _ _ _ _ _ _ => F
    refine o_neg F fun t5 s3 F => p_none ?_
    have hl1 : vs1.length = (Txt.split y (Str.ofString "\t")).length := strs_length hvs1
    have hl2 : (Txt.split y (Str.ofString "\t")).length = p.1.length + 1 := by
      have := congrArg List.length (split_lens hy)
      simpa using this
    have hrl := rs_len_le p.1
    refine o_slice F ((isL_mk _ _).at F.at0) (by omega) .none (.int _ _) .none (by simp) fun d2 s4 F => ?_
    rw [show (-1 : Int) = -((1 : Nat) : Int) from rfl, slicePick_butLast _ _ (by decide)] at F
    simp only [List.size_toArray] at F
    obtain ⟨k2, hs2, hk2, F⟩ := F.freeze
    refine comp_list (vs := vs1.take (vs1.length - 1)) F a'.hd ((isL_mk _ _).at hk2) (by rw [List.length_take]; omega) (fun v r => ∃ y t t', v = .str y t ∧ r = .int (y.length : Int) t') ?_ ?_
    · rintro v C mc k3 mu3 s5 hv hs3 hmc F
      obtain ⟨yv, tv, rfl, hyv⟩ := strs_mem hvs1 v (List.mem_of_mem_take hv)
      repeat' walk_at "ev"
      rename Fm _ _ _ _ _ _ _ _ _ => F
      refine c_lenS F ?_ fun t6 s6 F => ?_
      · have := part_short hyv; omega
      exact elt_of F (Sub.refl _) ⟨yv, tv, t6, rfl, rfl⟩
    intro D n' ys k3 C mc s5 hpa hs3
    have hI2 := ints_of_lens (strs_take _ hvs1) hpa
    rw [hl1, lens_enc hy] at hI2
    have hys := hI2.length
    rw [show (castL p.1).length = p.1.length from List.length_map ..] at hys
    refine behind_none fun s6 F => ?_
    repeat' walk_at "ev"
    rename Fm _ _ _ _ _ _ _ _ _ => F
    refine c_sorted F ((isL_mk _ _).at F.at0) hI2 (by omega) fun d3 vs3 ns3 n3 s7 hI3 hperm hpw F => ?_
    have F := F.drop1.drop1
    obtain ⟨k4, hs4, hk4, F⟩ := F.freeze
    have hsrt : ∀ acc, fcome acc ns3 = fcome acc (keysP (entP p.1)) := fun acc => by
      refine fcome_sorted _ _ _ hpw (tab_pair _ _) fun i => ?_
      have h1 := (ent_cntOf p.1).mem i
      rw [h1, hperm.mem_iff]
      simp only [castL, List.mem_map]
      exact ⟨fun ⟨r, a, b⟩ => ⟨r, a, b.symm⟩, fun ⟨r, a, b⟩ => ⟨r, a, b.symm⟩⟩
    have hn3 : ns3.length = p.1.length := by rw [hperm.length_eq]; exact List.length_map ..
    have hv3 := hI3.length
    refine loop_list F a'.hd ((isL_mk _ _).at hk4) (fun j m k' mu => m "lengths" = some (.ref d) ∧ ∃ (vs : List Value) (n : Nat), mu = [(d, lst vs n), (I, o')] ∧ IntsAre vs (fcome (fcT (ts.take i)) (ns3.take j))) ⟨by walk_at "lk", vs, n, rfl, hI⟩ ?_ ?_
    · rintro j v I2 o2 m k5 mu2 s8 hv hsub2 ⟨hlengths, vs4, n4, rfl, hI4⟩ F
      have hjlt : j < ns3.length := by
        rw [← hv3]
        rcases Nat.lt_or_ge j vs3.length with h | h
        · exact h
        · rw [List.getElem?_toArray, List.getElem?_eq_none h] at hv; cases hv
      obtain ⟨tj, hvj⟩ := hI3.get j ns3[j] (by simp [hjlt])
      rw [List.getElem?_toArray, hvj] at hv
      cases hv
      have hst : fcome (fcT (ts.take i)) (ns3.take (j + 1)) = fstep (fcome (fcT (ts.take i)) (ns3.take j)) ns3[j] := by
        have : ns3[j]? = some ns3[j] := by simp [hjlt]
        unfold fcome
        rw [List.take_add_one, this, Option.toList_some, List.foldl_append]; rfl
      have hlen : vs4.length ≤ 10000 := by
        have h1 := hI4.length
        have h2 := fcome_len (ns3.take j) (fcT (ts.take i))
        have h3 := hfl i
        rw [List.length_take] at h2
        omega
      repeat' walk_at "ev"
      rename Fm _ _ _ _ _ _ _ _ _ => F
      refine o_notinL ((isL_mk _ _).at F.at0) hI4 ?_
      repeat' walk_at "ev"
      refine ⟨fun q => ?_, fun q => ?_⟩
      · have q : ns3[j] ∉ fcome (fcT (ts.take i)) (ns3.take j) := by simpa using q
        repeat' walk_at "ev"
        rename Fm _ _ _ _ _ _ _ _ _ => F
        refine gm_append F.at0 ?_
        repeat' walk_at "ev"
        rename Fm _ _ _ _ _ _ _ _ _ => F
        refine c_append F hlen fun n8 s' F => ⟨rfl, ?_⟩
        repeat' walk_at "ev"
        rename Fm _ _ _ _ _ _ _ _ _ => F
        refine turn_next (mu := [(d, lst (vs4 ++ [Value.int ns3[j] tj]) n8), (I, o')]) F hsub2 ⟨by walk_at "lk", _, n8, rfl, ?_⟩
        rw [hst, fstep, if_neg q]
        exact hI4.append (.cons _ _ .nil)
      · have q : ns3[j] ∈ fcome (fcT (ts.take i)) (ns3.take j) := by simpa using q
        repeat' walk_at "ev"
        rename Fm _ _ _ _ _ _ _ _ _ => F
        refine turn_next (mu := [(d, lst vs4 n4), (I, o')]) F hsub2 ⟨by walk_at "lk", _, n4, rfl, ?_⟩
        rw [hst, fstep, if_pos q]
        exact hI4
    · rintro m k5 mu2 s8 ⟨hlengths, vs4, n4, rfl, hI4⟩ hsub2 F
      rw [List.size_toArray, hv3, List.take_length, hsrt] at hI4
      repeat' walk_at "ev"
      rename Fm _ _ _ _ _ _ _ _ _ => F
      refine turn_next (mu := [(d, lst vs4 n4)]) F (hsub.trans (hs2.trans (hs3.trans (hs4.trans hsub2)))) ⟨by walk_at "lk", vs4, n4, rfl, ?_⟩
      rw [fcT_take hp]; exact hI4
  · rintro m k1 mu' s2 ⟨hlengths, vs, n, rfl, hI⟩ hsub F
    rw [List.size_toArray, hel, List.take_length] at hI
    repeat' walk_at "ev"
    rename Fm _ _ _ _ _ _ _ _ _ => F
    obtain ⟨k4, hs4, hk4, F⟩ := F.freeze
    exact Ret.of F ⟨d, vs, rfl, (isL_mk _ _).at hk4, hI⟩
noncomputable def fdCC : FuncData := fdGet 42 rfl
noncomputable def fdAddF : FuncData := fdGet 28 rfl
noncomputable def fdAddC : FuncData := fdGet 35 rfl
theorem tabv_at {tot : Int} {k : Heap} : ∀ {kvs : List (Int × Value)} {ps : List (Int × Int)} {i : Nat} {key : Int} {v : Value}, TabV tot k kvs ps → kvs[i]? = some (key, v) → ∃ c, ps[i]? = some (key, c) ∧ Cal tot k v key c
  | [], [], i, _, _, _, h => by simp at h
  | p :: r, q :: l, 0, key, v, ⟨a, b, _⟩, h => by
    simp only [List.getElem?_cons_zero, Option.some.injEq] at h
    subst h
    dsimp only at a b
    refine ⟨q.2, ?_, ?_⟩
    · rw [List.getElem?_cons_zero, a]
    · rw [a]; exact b
  | p :: r, q :: l, i + 1, key, v, ⟨_, _, d⟩, h => by
    simp only [List.getElem?_cons_succ] at h ⊢
    exact tabv_at d h
  | [], _ :: _, _, _, _, h, _ => h.elim
  | _ :: _, [], _, _, _, h, _ => h.elim
theorem cal0 {k : Heap} {v : Value} {i c : Int} (h : Cal 0 k v i c) : ∃ t, v = .int c t := by
  unfold Cal at h; rw [if_pos (by decide)] at h; exact h
theorem cc_spec {w : World} {R : Shared → Shared → Prop} {s : Shared} {k : Heap} {A : Around} {d : Addr} {ps : List (Int × Int)} (hR : Rel w R) (C : Cx w k s) (a : Ar A 1) (ht : Tab w 0 k d ps) :
    wpAny (model Pr w) A (call (.ref 42) [.ref d]) (Ret R s k (fun k' v => ∃ t, v = .int (ps.map (·.2)).sum t)) (fun _ _ => False) s := by
  obtain ⟨hsm, kvs, hd, htv⟩ := ht
  refine enter (fd := fdCC) (binds := [("callers", .ref d)]) hR C a rfl rfl rfl (BindsTo.of_eq rfl) (by decide) (locs rfl) (fun A' L s₁ a' F => ?_)
  repeat' walk_at "ev"
  rename Fm _ _ _ _ _ _ _ _ _ => F
  refine gm_D PySem.F.slot_dict_values ty_values (DictK.mono hd F.led) ?_
  repeat' walk_at "ev"
  rename Fm _ _ _ _ _ _ _ _ _ => F
  refine c_values F (DictK.mono hd F.led) hsm fun v s2 F => ?_
  refine loop_values F a'.hd hd (fun i m k' mu => mu = [] ∧ k' = k ∧ ∃ t, m "nc" = some (.int ((ps.take i).map (·.2)).sum t)) ⟨rfl, rfl, hasI (by walk_at "lk") rfl⟩ ?_ ?_
  · rintro i key y I o' m k' mu' s3 hi hsub ⟨rfl, rfl, t, hnc⟩ F
    obtain ⟨c, hc, hcal⟩ := tabv_at htv hi
    obtain ⟨tc, rfl⟩ := cal0 hcal
    refine xs_augN F (by walk_at "lk") ?_
    repeat' walk_at "ev"
    rename Fm _ _ _ _ _ _ _ _ _ => F
    refine o_iadd F fun t5 s5 F => ?_
    repeat' walk_at "ev"
    rename Fm _ _ _ _ _ _ _ _ _ => F
    refine turn_next (mu := []) F hsub ⟨rfl, rfl, hasI (by walk_at "lk") ?_⟩
    rw [List.take_add_one, hc, Option.toList_some, List.map_append, List.sum_append]
    simp
  · rintro m k' mu' s3 ⟨rfl, rfl, t, hnc⟩ hsub F
    rw [htv.len, List.take_length] at hnc
    repeat' walk_at "ev"
    rename Fm _ _ _ _ _ _ _ _ _ => F
    exact Ret.of F ⟨t, rfl⟩
theorem Tab.nodup {w : World} {tot : Int} {k : Heap} {d : Addr} {ps : List (Int × Int)} (h : Tab w tot k d ps) : (keysP ps).Nodup := by
  obtain ⟨_, kvs, hd, htv⟩ := h
  obtain ⟨_, _, _, _, _, _, _, _, hn⟩ := hd
  show (ps.map (·.1)).Nodup
  rw [← htv.keys]; exact hn
theorem put_new {ps : List (Int × Int)} {i c : Int} (h : i ∉ keysP ps) : putP ps i c = ps ++ [(i, c)] := by
  unfold putP; rw [if_neg (fun x => h ((any_iff ps i).mp x))]
theorem put_take {ps : List (Int × Int)} {j : Nat} {i c : Int} (hn : (keysP ps).Nodup) (h : ps[j]? = some (i, c)) : putP (ps.take j) i c = ps.take (j + 1) := by
  rw [put_new, List.take_add_one, h]; rfl
  intro q
  have hj : j < ps.length := (List.getElem?_eq_some_iff.mp h).1
  obtain ⟨p, hp, e⟩ := List.mem_map.mp q
  obtain ⟨x, hx, e2⟩ := List.mem_iff_getElem.mp hp
  rw [List.length_take] at hx
  have h1 : (keysP ps)[x]'(by simp [keysP]; omega) = (keysP ps)[j]'(by simp [keysP]; omega) := by
    simp only [keysP, List.getElem_map]
    rw [(List.getElem?_eq_some_iff.mp h).2]
    have : ps[x]'(by omega) = p := by rw [← e2]; simp
    rw [this, e]
  have := (List.getElem_inj hn).mp h1
  omega
theorem add_take {ps qs : List (Int × Int)} {j : Nat} {i c : Int} (h : qs[j]? = some (i, c)) : addP ps (qs.take (j + 1)) = putP (addP ps (qs.take j)) i (c + cntP (addP ps (qs.take j)) i) := by
  unfold addP; rw [List.take_add_one, h, Option.toList_some, List.foldl_append]; rfl
theorem add_len (qs : List (Int × Int)) : ∀ ps : List (Int × Int), (addP ps qs).length ≤ ps.length + qs.length := by
  induction qs with
  | nil => intro ps; exact Nat.le_refl _
  | cons q qs ih =>
    intro ps
    have h1 := ih (putP ps q.1 (q.2 + cntP ps q.1))
    have h2 : (putP ps q.1 (q.2 + cntP ps q.1)).length ≤ ps.length + 1 := by unfold putP; split <;> simp
    show (addP (putP ps q.1 (q.2 + cntP ps q.1)) qs).length ≤ _
    rw [List.length_cons]; omega
theorem cal_even {tot : Int} {k : Heap} {v : Value} {i c : Int} (q : tot.fmod 2 = 0) : Cal tot k v i c ↔ ∃ t, v = .int c t := by unfold Cal; rw [if_pos q]
theorem cal_odd {tot : Int} {k : Heap} {v : Value} {i c : Int} (q : ¬ tot.fmod 2 = 0) : Cal tot k v i c ↔ ∃ a t1 t2 t3 n, v = .ref a ∧ k.get? a = some { cls := .type "tuple", data := .seq [.int c t1, .int (c * i) t2, .int (c * (i.fdiv 2 + 1) * 2) t3].toArray n } := by unfold Cal; rw [if_neg q]
theorem three_ints {x1 x2 x3 : Int} {u1 u2 u3 : Tok} : ∀ (i : Nat) (v : Value), ([.int x1 u1, .int x2 u2, .int x3 u3] : List Value).toArray[i]? = some v → ∃ n t, v = .int n t := by
  intro i v h
  rw [List.getElem?_toArray] at h
  have := List.mem_of_getElem? h
  simp only [List.mem_cons, List.not_mem_nil, or_false] at this
  rcases this with rfl | rfl | rfl <;> exact ⟨_, _, rfl⟩
set_option maxHeartbeats 2000000 in
theorem addc_spec {w : World} {s : Shared} {k : Heap} {A : Around} {d1 d2 : Addr} {ps qs : List (Int × Int)} {tot : Int} (C : Cx w k s) (a : Ar A 2) (h1 : Tab w tot k d1 ps) (h2 : Tab w tot k d2 qs) (hl1 : ps.length ≤ 1000) (hl2 : qs.length ≤ 1000) :
    wpAny (model Pr w) A (call (.ref 35) [.ref d1, .ref d2]) (Ret Kp s k (fun k' v => ∃ d, v = .ref d ∧ Tab w tot k' d (addP ps qs))) (fun _ _ => False) s := by
  have hn1 := h1.nodup
  obtain ⟨hsm1, kvs1, hd1, htv1⟩ := h1
  obtain ⟨hsm2, kvs2, hd2, htv2⟩ := h2
  have hle1 := htv1.len
  have hle2 := htv2.len
  refine enter (fd := fdAddC) (binds := [("target", .ref d1), ("source", .ref d2)]) (relKp w) C a rfl rfl rfl (BindsTo.of_eq rfl) (by decide) (locs rfl) (fun A' L s₁ a' F => ?_)
  repeat' walk_at "ev"
  rename Fm _ _ _ _ _ _ _ _ _ => F
  refine e_dict0 F fun d od s1 hod F => ?_
  repeat' walk_at "ev"
  rename Fm _ _ _ _ _ _ _ _ _ => F
  refine gm_D PySem.F.slot_dict_items ty_items (DictK.mono hd1 F.led) ?_
  repeat' walk_at "ev"
  rename Fm _ _ _ _ _ _ _ _ _ => F
  refine c_items F (DictK.mono hd1 F.led) hsm1 fun v s2 F => ?_
  refine loop_items F a'.hd hd1 (fun j m k' mu => m "source" = some (.ref d2) ∧ m "new_callers" = some (.ref d) ∧ ∃ (o : Obj) (kvs : List (Int × Value)), mu = [(d, o)] ∧ IsD w o kvs ∧ TabV tot k' kvs (ps.take j))
    ⟨by walk_at "lk", by walk_at "lk", od, [], rfl, hod, trivial⟩ ?_ ?_
  · rintro j key tk y I o' m k1 mu' s3 hj hsub ⟨hsrc, hnew, o, kvs, rfl, hkd, htv⟩ F
    obtain ⟨c, hc, hcal⟩ := tabv_at htv1 hj
    have hjl : j < ps.length := (List.getElem?_eq_some_iff.mp hc).1
    have hlen := htv.len
    rw [List.length_take] at hlen
    repeat' walk_at "ev"
    rename Fm _ _ _ _ _ _ _ _ _ => F
    refine o_setD F hkd (by omega) fun o2 s' hkd2 F => ?_
    repeat' walk_at "ev"
    rename Fm _ _ _ _ _ _ _ _ _ => F
    refine turn_next (mu := [(d, o2)]) F hsub ⟨by walk_at "lk", by walk_at "lk", o2, _, rfl, hkd2, ?_⟩
    rw [← put_take hn1 hc]
    exact htv.put (hcal.mono hsub)
  rintro m k1 mu' s3 ⟨hsrc, hnew, o, kvs, rfl, hkd, htv⟩ hsub F
  rw [hle1, List.take_length] at htv
  repeat' walk_at "ev"
  rename Fm _ _ _ _ _ _ _ _ _ => F
  refine gm_D PySem.F.slot_dict_items ty_items (DictK.mono hd2 (hsub.trans F.led)) ?_
  repeat' walk_at "ev"
  rename Fm _ _ _ _ _ _ _ _ _ => F
  refine c_items F (DictK.mono hd2 (hsub.trans F.led)) hsm2 fun v s2 F => ?_
  refine loop_items F a'.hd (DictK.mono hd2 hsub) (fun j m k' mu => m "new_callers" = some (.ref d) ∧ ∃ (o : Obj) (kvs : List (Int × Value)), mu = [(d, o)] ∧ IsD w o kvs ∧ TabV tot k' kvs (addP ps (qs.take j)))
    ⟨by walk_at "lk", o, kvs, rfl, hkd, htv⟩ ?_ ?_
  · rintro j key tk y I o' m k2 mu' s3 hj hsub2 ⟨hnew, o, kvs, rfl, hkd, htv⟩ F
    obtain ⟨c, hc, hcal⟩ := tabv_at htv2 hj
    have hcal := hcal.mono (hsub.trans hsub2)
    have hjl : j < qs.length := (List.getElem?_eq_some_iff.mp hc).1
    have hlen := htv.len
    have hlen2 := add_len (qs.take j) ps
    rw [List.length_take] at hlen2
    have hnm := F.nsm
    generalize hcur : addP ps (qs.take j) = cur at *
    have hst : addP ps (qs.take (j + 1)) = putP cur key (c + cntP cur key) := by rw [add_take hc, hcur]
    repeat' walk_at "ev"
    rename Fm _ _ _ _ _ _ _ _ _ => F
    refine o_inD F (hkd.at F.at0) hnm fun s' F => ?_
    repeat' walk_at "ev"
    rename Fm _ _ _ _ _ _ _ _ _ => F
    refine ⟨fun q => ?_, fun q => ?_⟩
    · have hin : key ∈ keysP cur := by
        apply Classical.byContradiction
        intro x
        rw [htv.none x] at q
        cases q
      obtain ⟨v', hv', hcal'⟩ := htv.some hin
      by_cases ev : tot.fmod 2 = 0
      · obtain ⟨ty, rfl⟩ := (cal_even ev).mp hcal
        obtain ⟨tv, rfl⟩ := (cal_even ev).mp hcal'
        repeat' walk_at "ev"
        rename Fm _ _ _ _ _ _ _ _ _ => F
        refine isTrue_plain ?_
        repeat' walk_at "ev"
        rename Fm _ _ _ _ _ _ _ _ _ => F
        refine c_isiI F fun s' F => ?_
        repeat' walk_at "ev"
        rename Fm _ _ _ _ _ _ _ _ _ => F
        refine ⟨fun q => Bool.noConfusion q, fun _ => ?_⟩
        refine xs_aug ?_
        repeat' walk_at "ev"
        rename Fm _ _ _ _ _ _ _ _ _ => F
        refine o_getD F (hkd.at F.at0) hv' fun s' F => ?_
        repeat' walk_at "ev"
        rename Fm _ _ _ _ _ _ _ _ _ => F
        refine o_iadd F fun t5 s5 F => ?_
        refine o_setD F hkd (by omega) fun o2 s' hkd2 F => ?_
        repeat' walk_at "ev"
        rename Fm _ _ _ _ _ _ _ _ _ => F
        refine turn_next (mu := [(d, o2)]) F hsub2 ⟨by walk_at "lk", o2, _, rfl, hkd2, ?_⟩
        rw [hst]
        exact htv.put ((cal_even ev).mpr ⟨t5, by rw [Int.add_comm]⟩)
      · obtain ⟨ta, u1, u2, u3, na, rfl, hta⟩ := (cal_odd ev).mp hcal
        obtain ⟨tb, w1, w2, w3, nb, rfl, htb⟩ := (cal_odd ev).mp hcal'
        repeat' walk_at "ev"
        rename Fm _ _ _ _ _ _ _ _ _ => F
        refine isTrue_plain ?_
        repeat' walk_at "ev"
        rename Fm _ _ _ _ _ _ _ _ _ => F
        refine c_isiT ((isT_mk _ _).at (F.led _ _ hta)) ?_
        repeat' walk_at "ev"
        rename Fm _ _ _ _ _ _ _ _ _ => F
        refine ⟨fun _ => ?_, fun q => Bool.noConfusion q⟩
        repeat' walk_at "ev"
        rename Fm _ _ _ _ _ _ _ _ _ => F
        refine e_gensum (t1 := ta) (t2 := tb) (xs := [.int c u1, .int (c * key) u2, .int (c * (key.fdiv 2 + 1) * 2) u3].toArray) (ys := [.int (cntP cur key) w1, .int (cntP cur key * key) w2, .int (cntP cur key * (key.fdiv 2 + 1) * 2) w3].toArray) F a'.hd a'.room rfl rfl (cl := []) rfl ?_ rfl (by exact Nat.le_of_ble_eq_true rfl) three_ints three_ints ?_ (fun a s' h => i_nil h) ?_
        · repeat' walk_at "ev"
          rename Fm _ _ _ _ _ _ _ _ _ => F
          refine o_subD F (hkd.at F.at0) hv' fun s' F => ?_
          repeat' walk_at "ev"
          rename Fm _ _ _ _ _ _ _ _ _ => F
          exact c_zip F ((isT_mk _ _).at (F.led _ _ hta)) ((isT_mk _ _).at (F.led _ _ htb)) fun s' Z => ⟨_, rfl, Z⟩
        · intro A2 E2 C2 code a b xa xb s₂ m₂ hn ha hb
          refine wpAny_BinOp (wpAny_Name (wpAny_loadName_local rfl rfl hn ha (wpAny_Name (wpAny_loadName_local rfl rfl hn hb (add_int ?_)) (by decide))) (by decide))
          exact ⟨⟨_, rfl⟩, s₂.heap, _, rfl, fun _ _ e => e⟩
        intro T vs s' hvl hvs F
        obtain ⟨x1, g1⟩ := hvs 0 _ _ _ _ rfl rfl
        obtain ⟨x2, g2⟩ := hvs 1 _ _ _ _ rfl rfl
        obtain ⟨x3, g3⟩ := hvs 2 _ _ _ _ rfl rfl
        have hvs3 : vs = [.int (c + cntP cur key) x1, .int (c * key + cntP cur key * key) x2, .int (c * (key.fdiv 2 + 1) * 2 + cntP cur key * (key.fdiv 2 + 1) * 2) x3] := by
          have hvl : vs.length = 3 := hvl
          match vs, hvl with
          | [a, b, c], _ =>
            simp only [List.getElem?_cons_zero, List.getElem?_cons_succ, Option.some.injEq] at g1 g2 g3
            rw [g1, g2, g3]
        subst hvs3
        obtain ⟨k3, hs3, hk3, F⟩ := F.freeze
        repeat' walk_at "ev"
        rename Fm _ _ _ _ _ _ _ _ _ => F
        refine o_setD F hkd (by omega) fun o2 s' hkd2 F => ?_
        repeat' walk_at "ev"
        rename Fm _ _ _ _ _ _ _ _ _ => F
        refine turn_next (mu := [(d, o2)]) F (hsub2.trans hs3) ⟨by walk_at "lk", o2, _, rfl, hkd2, ?_⟩
        rw [hst]
        refine (htv.mono hs3).put ((cal_odd ev).mpr ⟨T, x1, x2, x3, 0, rfl, ?_⟩)
        rw [Int.add_mul, Int.add_mul, Int.add_mul]
        exact hk3
    · have hout : key ∉ keysP cur := by
        intro x
        obtain ⟨v', hv', _⟩ := htv.some x
        rw [hv'] at q
        cases q
      repeat' walk_at "ev"
      rename Fm _ _ _ _ _ _ _ _ _ => F
      refine o_setD F hkd (by omega) fun o2 s' hkd2 F => ?_
      repeat' walk_at "ev"
      rename Fm _ _ _ _ _ _ _ _ _ => F
      refine turn_next (mu := [(d, o2)]) F hsub2 ⟨by walk_at "lk", o2, _, rfl, hkd2, ?_⟩
      rw [hst, cnt_out hout, Int.add_zero]
      exact htv.put hcal
  · rintro m k2 mu' s3 ⟨hnew, o, kvs, rfl, hkd, htv⟩ hsub2 F
    rw [hle2, List.take_length] at htv
    repeat' walk_at "ev"
    rename Fm _ _ _ _ _ _ _ _ _ => F
    have hnm := F.nsm
    obtain ⟨k3, hs3, hk3, F⟩ := F.freeze
    exact Ret.of F ⟨d, rfl, hnm, kvs, hkd.at hk3, htv.mono hs3⟩
noncomputable def fdSums : FuncData := fdGet 151 rfl
theorem Ent.congr {w : World} {tot z : Int} {k : Heap} {v : Value} {f g : Int → Int} {ps : List (Int × Int)} (h : Ent w tot z k v f ps) (hz : 1 ≤ z) (e : ∀ x, 1 ≤ x → f x = g x) : Ent w tot z k v g ps := by
  obtain ⟨a, d, t1, t2, t3, t4, e1, e2, e3⟩ := h
  refine ⟨a, d, t1, t2, t3, t4, e1, ?_, e3⟩
  rw [← e 1 (by decide), ← e 2 (by decide), ← e 3 (by decide), ← e z hz]
  exact e2
theorem entry_enc {w : World} {R : Shared → Shared → Prop} {s : Shared} {k : Heap} {A : Around} {y : Str} {t t3 : Tok} {rs : List Nat} {b : Nat} {vz : Value} {z tot : Int} (hR : Rel w R) (C : Cx w k s) (a : Ar A 3) (hy : y.cps.toList = enc rs b) (hz : wid rs + b ≤ 900)
    (hsz : SizesAt k vz z) (hz1 : 1 ≤ z) (hz2 : z ≤ 100) :
    wpAny (model Pr w) A (call (.ref 134) [.str y t, vz, .int tot t3]) (Ret R s k (fun k' v => Ent w tot z k' v (fun ts => lev ts rs b) (entP rs))) (fun _ _ => False) s := by
  refine wpAny_mono (entry_spec hR C a hy (fun c hc => enc_mem hc) (by rw [enc_len]; exact hz) hsz hz1 hz2) (fun v s' ⟨r1, k', r2, r3, r4, r5, r6⟩ => ⟨r1, k', r2, r3, r4, r5, ?_⟩) fun _ _ e => e
  have h := r6.congr hz1 (g := fun ts => lev ts rs b) fun x hx => levW_enc hx rs b
  rw [wsF_enc] at h
  exact h
set_option maxHeartbeats 1000000 in
theorem addf_spec {w : World} {s : Shared} {k : Heap} {A : Around} {v1 v2 : Value} {f g : Int → Int} {ps qs : List (Int × Int)} {tot z : Int} (C : Cx w k s) (a : Ar A 3) (h1 : Ent w tot z k v1 f ps) (h2 : Ent w tot z k v2 g qs) (hl1 : ps.length ≤ 1000) (hl2 : qs.length ≤ 1000) :
    wpAny (model Pr w) A (call (.ref 28) [v1, v2]) (Ret Kp s k (fun k' v => Ent w tot z k' v (fun x => g x + f x) (addP ps qs))) (fun _ _ => False) s := by
  obtain ⟨a1, d1, t1, t2, t3, t4, rfl, e1, e2⟩ := h1
  obtain ⟨a2, d2, u1, u2, u3, u4, rfl, g1, g2⟩ := h2
  refine enter (fd := fdAddF) (binds := [("target", .ref a1), ("source", .ref a2)]) (relKp w) C a rfl rfl rfl (BindsTo.of_eq rfl) (by decide) (locs rfl) (fun A' L s₁ a' F => ?_)
  repeat' walk_at "ev"
  rename Fm _ _ _ _ _ _ _ _ _ => F
  refine x_unpack F (IsTup.mono g1 F.led) a'.hd rfl rfl fun s' F => ?_
  refine io_cons ?_
  repeat' walk_at "ev"
  refine io_cons ?_
  repeat' walk_at "ev"
  refine io_cons ?_
  repeat' walk_at "ev"
  refine io_cons ?_
  repeat' walk_at "ev"
  refine io_cons ?_
  repeat' walk_at "ev"
  refine io_nil ?_
  repeat' walk_at "ev"
  rename Fm _ _ _ _ _ _ _ _ _ => F
  refine x_unpack F (IsTup.mono e1 F.led) a'.hd rfl rfl fun s' F => ?_
  refine io_cons ?_
  repeat' walk_at "ev"
  refine io_cons ?_
  repeat' walk_at "ev"
  refine io_cons ?_
  repeat' walk_at "ev"
  refine io_cons ?_
  repeat' walk_at "ev"
  refine io_cons ?_
  repeat' walk_at "ev"
  refine io_nil ?_
  repeat' walk_at "ev"
  rename Fm _ _ _ _ _ _ _ _ _ => F
  refine use_ret F (addc_spec F.cx (a'.le (by decide)) e2 g2 hl1 hl2) ?_
  rintro _ k1 s1 hs1 ⟨d, rfl, htab⟩ F
  repeat' walk_at "ev"
  rename Fm _ _ _ _ _ _ _ _ _ => F
  refine o_tuple F (by exact Nat.le_of_ble_eq_true rfl) fun dt s' F => ?_
  obtain ⟨k2, hs2, hk2, F⟩ := F.freeze
  repeat' walk_at "ev"
  rename Fm _ _ _ _ _ _ _ _ _ => F
  exact Ret.of F ⟨dt, d, _, _, _, _, rfl, (isT_mk _ 0).at hk2, htab.mono hs2⟩
section
variable {w : World} {R : Shared → Shared → Prop} {s₀ s : Shared} {L : Addr} {m : Str → Option Value} {k₀ k : Heap} {mu : List (Addr × Obj)} {A : Around} {E : Value → Shared → Prop} {env : Env}
theorem o_lastL {l : Addr} {vs : List Value} {t : Tok} {v : Value} {value slice : Expr} {Q : Value → Shared → Prop} (hl : s.heap.IsList l vs.toArray) (hz : vs.length ≤ 10000) (hv : vs[vs.length - 1]? = some v) (h : Q v s)
    (hs : subscripted slice false (.ref l) (.int (-1) t) = operate [.ref l, .int (-1) t] (getItem (.ref l) (.int (-1) t)) := by with_unfolding_all rfl) : wpAny (model Pr w) A (subscriptTail value slice (.ref l) (.int (-1) t)) Q E s := by
  have hp : 0 < vs.length := by
    rcases Nat.eq_zero_or_pos vs.length with e | e
    · rw [List.getElem?_eq_none (by omega)] at hv; cases hv
    · exact e
  refine tail_any hl.typeIs slot_list_getitem.lookup (wpAny_getItem_list_neg hl (by decide) (by rw [List.size_toArray]; omega) ?_ ?_ h) hs
  · decide
  · rw [List.size_toArray, List.getElem?_toArray, show (-1 + (vs.length : Int)).toNat = vs.length - 1 from by omega]; exact hv
end
def levS (ts : List (List Nat × Nat)) (x : Int) : Int := (ts.map fun p => lev x p.1 p.2).sum
def tabS (ts : List (List Nat × Nat)) : List (Int × Int) := ts.foldl (fun ps p => addP ps (entP p.1)) []
theorem levS_take {ts : List (List Nat × Nat)} {i : Nat} {p : List Nat × Nat} (h : ts[i]? = some p) (x : Int) : levS (ts.take (i + 1)) x = lev x p.1 p.2 + levS (ts.take i) x := by
  unfold levS; rw [List.take_add_one, h, Option.toList_some, List.map_append, List.sum_append]; simp; omega
theorem tabS_take {ts : List (List Nat × Nat)} {i : Nat} {p : List Nat × Nat} (h : ts[i]? = some p) : tabS (ts.take (i + 1)) = addP (tabS (ts.take i)) (entP p.1) := by
  unfold tabS; rw [List.take_add_one, h, Option.toList_some, List.foldl_append]; rfl
theorem tabS_keys (ts : List (List Nat × Nat)) : keysP (tabS ts) = fcT ts := by
  have : ∀ (ts : List (List Nat × Nat)) (ps : List (Int × Int)), keysP (ts.foldl (fun ps p => addP ps (entP p.1)) ps) = ts.foldl (fun acc p => fcome acc (keysP (entP p.1))) (keysP ps) := by
    intro ts
    induction ts with
    | nil => intro ps; rfl
    | cons p ts ih => intro ps; rw [List.foldl_cons, List.foldl_cons, ih, keys_add]
  exact this ts []
theorem tabS_len {ts : List (List Nat × Nat)} (h : Small ts) (i : Nat) : (tabS (ts.take i)).length ≤ 160 := by
  have h1 := fcT_len (ts.take i) fun p hp => h.2 p (List.mem_of_mem_take hp)
  have h2 := h.1
  rw [List.length_take] at h1
  have h3 : (tabS (ts.take i)).length = (keysP (tabS (ts.take i))).length := (List.length_map ..).symm
  rw [tabS_keys] at h3
  omega
def SumsV (w : World) (tot z : Int) (k : Heap) (vs : List Value) (ts : List (List Nat × Nat)) (n : Nat) : Prop := vs.length = n + 1 ∧ ∀ i, i ≤ n → ∃ u, vs[i]? = some u ∧ Ent w tot z k u (levS (ts.take i)) (tabS (ts.take i))
def SumsAt (w : World) (tot z : Int) (k : Heap) (v : Value) (ts : List (List Nat × Nat)) : Prop := ∃ (l : Addr) (vs : List Value), v = .ref l ∧ k.IsList l vs.toArray ∧ SumsV w tot z k vs ts ts.length
theorem SumsV.mono {w : World} {tot z : Int} {k k' : Heap} {vs : List Value} {ts : List (List Nat × Nat)} {n : Nat} (h : SumsV w tot z k vs ts n) (hs : Sub k k') : SumsV w tot z k' vs ts n :=
  ⟨h.1, fun i hi => let ⟨u, a, b⟩ := h.2 i hi; ⟨u, a, b.mono hs⟩⟩
theorem SumsAt.mono {w : World} {tot z : Int} {k k' : Heap} {v : Value} {ts : List (List Nat × Nat)} (h : SumsAt w tot z k v ts) (hs : Sub k k') : SumsAt w tot z k' v ts :=
  let ⟨l, vs, a, b, c⟩ := h; ⟨l, vs, a, IsList.mono b hs, c.mono hs⟩
set_option maxHeartbeats 1000000 in
theorem sums_spec {w : World} {s : Shared} {k : Heap} {A : Around} {vt vz : Value} {ts : List (List Nat × Nat)} {tot z : Int} {t3 : Tok} (C : Cx w k s) (a : Ar A 4) (ht : TextsAt k vt ts) (hsm : Small ts) (hsz : SizesAt k vz z) (hz1 : 1 ≤ z) (hz2 : z ≤ 100) :
    wpAny (model Pr w) A (call (.ref 151) [vt, vz, .int tot t3]) (Ret Kp s k (fun k' v => SumsAt w tot z k' v ts)) (fun _ _ => False) s := by
  obtain ⟨lt, vts, rfl, hlt, henc⟩ := ht
  have hel := henc.len
  refine enter (fd := fdSums) (binds := [("texts", .ref lt), ("sizes", vz), ("total", .int tot t3)]) (relKp w) C a rfl rfl rfl (BindsTo.of_eq rfl) (by decide) (locs rfl) (fun A' L s₁ a' F => ?_)
  repeat' walk_at "ev"
  rename Fm _ _ _ _ _ _ _ _ _ => F
  refine e_dict0 F fun d od s1 hod F => ?_
  repeat' walk_at "ev"
  rename Fm _ _ _ _ _ _ _ _ _ => F
  refine o_tuple F (by exact Nat.le_of_ble_eq_true rfl) fun dt s' F => ?_
  have hnm := F.drop.nsm
  obtain ⟨k1, hs1, hk1, F⟩ := F.freeze
  obtain ⟨k2, hs2, hk2, F⟩ := F.freeze
  have he0 : Ent w tot z k2 (.ref dt) (levS (ts.take 0)) (tabS (ts.take 0)) := ⟨dt, d, _, _, _, _, rfl, IsTup.mono ((isT_mk _ 0).at hk1) hs2, hnm, [], hod.at hk2, trivial⟩
  repeat' walk_at "ev"
  rename Fm _ _ _ _ _ _ _ _ _ => F
  refine o_list F (by exact Nat.le_of_ble_eq_true rfl) fun dl s' F => ?_
  repeat' walk_at "ev"
  rename Fm _ _ _ _ _ _ _ _ _ => F
  refine loop_list F a'.hd (IsList.mono hlt (hs1.trans hs2)) (fun i m k' mu => m "sizes" = some vz ∧ m "total" = some (.int tot t3) ∧ m "sums" = some (.ref dl) ∧ ∃ (vs : List Value) (n : Nat), mu = [(dl, lst vs n)] ∧ SumsV w tot z k' vs ts i)
    ⟨by walk_at "lk", by walk_at "lk", by walk_at "lk", _, 0, rfl, rfl, fun i hi => ?_⟩ ?_ ?_
  · rw [Nat.le_zero.mp hi]; exact ⟨_, rfl, he0⟩
  · rintro i v I o' m k3 mu' s3 hv hsub ⟨hsizes, htotal, hsums, vs, n, rfl, hS⟩ F
    obtain ⟨p, y, t, hp, rfl, hy⟩ := henc.at i (by simpa using hv)
    have hpb := hsm.2 p (List.mem_of_getElem? hp)
    have hil : i < ts.length := (List.getElem?_eq_some_iff.mp hp).1
    have hts := hsm.1
    obtain ⟨hvl, hvs⟩ := hS
    obtain ⟨u, hu, hent⟩ := hvs i (Nat.le_refl _)
    repeat' walk_at "ev"
    rename Fm _ _ _ _ _ _ _ _ _ => F
    refine gm_append F.at0 ?_
    repeat' walk_at "ev"
    rename Fm _ _ _ _ _ _ _ _ _ => F
    refine UnaryOp_ ?_
    repeat' walk_at "ev"
    rename Fm _ _ _ _ _ _ _ _ _ => F
    refine o_neg F fun t5 s4 F => ?_
    refine o_lastL ((isL_mk _ _).at F.at0) (by omega) (by rw [hvl]; exact hu) ?_
    repeat' walk_at "ev"
    rename Fm _ _ _ _ _ _ _ _ _ => F
    refine use_ret F (entry_enc (relKp w) F.cx (a'.le (by decide)) hy (by omega) (hsz.mono (hs1.trans (hs2.trans hsub))) hz1 hz2) ?_
    rintro ve k4 s5 hs4 hE F
    repeat' walk_at "ev"
    rename Fm _ _ _ _ _ _ _ _ _ => F
    have hl2 := ent_len p.1
    have hl1 := tabS_len hsm i
    refine use_ret F (addf_spec F.cx (a'.le (by decide)) (hent.mono hs4) hE (by omega) (by omega)) ?_
    rintro vn k5 s6 hs5 hN F
    repeat' walk_at "ev"
    rename Fm _ _ _ _ _ _ _ _ _ => F
    refine c_append F (by omega) fun n8 s' F => ⟨rfl, ?_⟩
    repeat' walk_at "ev"
    rename Fm _ _ _ _ _ _ _ _ _ => F
    have hup : Sub k3 k5 := hs4.trans hs5
    refine turn_next (mu := [(dl, lst (vs ++ [vn]) n8)]) F (hsub.trans hup) ⟨by walk_at "lk", by walk_at "lk", by walk_at "lk", _, n8, rfl, by simp [hvl], fun j hj => ?_⟩
    rcases Nat.lt_or_ge j (i + 1) with h | h
    · obtain ⟨u', hu', he'⟩ := hvs j (by omega)
      exact ⟨u', by rw [List.getElem?_append_left (by omega)]; exact hu', he'.mono hup⟩
    · have hji : j = i + 1 := by omega
      subst hji
      refine ⟨vn, by rw [List.getElem?_append_right (by omega)]; simp [hvl], ?_⟩
      rw [tabS_take hp]
      exact hN.congr hz1 fun x _ => (levS_take hp x).symm
  · rintro m k3 mu' s3 ⟨hsizes, htotal, hsums, vs, n, rfl, hS⟩ hsub F
    rw [List.size_toArray, hel] at hS
    repeat' walk_at "ev"
    rename Fm _ _ _ _ _ _ _ _ _ => F
    obtain ⟨k4, hs4, hk4, F⟩ := F.freeze
    exact Ret.of F ⟨dl, vs, rfl, (isL_mk _ _).at hk4, hS.mono hs4⟩
theorem dict_any {p p' : Program} {w w' : World} {h : Heap} {a : Addr} {kvs : List (Int × Value)} (x : h.DictOf (intKind p w) a kvs) : h.DictOf (intKind p' w') a kvs := by
  obtain ⟨o, es, ep, h1, h2, h3, h4, h5, h6⟩ := x
  refine ⟨o, es, ep, h1, h2, h3, fun e he => h4 e he, ?_, h6⟩
  have key : ∀ {l : List DictEntry} {q : List (Int × Value)}, Pairs (intKind p w) l q → Pairs (intKind p' w') l q := by
    intro l q hq
    induction hq with
    | nil => exact .nil
    | cons a b _ ih => exact .cons a b ih
  exact key h5
theorem reads_cal {h : Heap} {a : Addr} {x1 x2 x3 : Int} {t1 t2 t3 : Tok} {n : Nat} (e : h.get? a = some { cls := .type "tuple", data := .seq [.int x1 t1, .int x2 t2, .int x3 t3].toArray n }) : Reads h (.ref a) (.tuple [.int x1, .int x2, .int x3]) [] :=
  reads_tuple_at e rfl rfl (.cons (as := []) (.int _ _) (.cons (as := []) (.int _ _) (.cons (as := []) (.int _ _) .nil)))
theorem cal_eqAt {A : Around} {s : Shared} {tot i c : Int} {v v' : Value} (h : Cal tot s.heap v i c) (h' : Cal tot s.heap v' i c) (hu : A.units + 64 < cLine) : SeqAt.EqAt A s v v' true := by
  by_cases q : tot.fmod 2 = 0
  · obtain ⟨t, rfl⟩ := (cal_even q).mp h
    obtain ⟨t', rfl⟩ := (cal_even q).mp h'
    have := SeqAt.EqAt.int_int (A := A) (s := s) c t c t'
    simpa using this
  · obtain ⟨a, t1, t2, t3, n, rfl, e⟩ := (cal_odd q).mp h
    obtain ⟨b, u1, u2, u3, n', rfl, e'⟩ := (cal_odd q).mp h'
    have sh : SeqAt.shaped (.tuple [.int c, .int (c * i), .int (c * (i.fdiv 2 + 1) * 2)]) = true := by simp [SeqAt.shaped, PyData.canLay0, PyData.canLayAll0, PyData.depth, PyData.depthAll]
    have := SeqAt.eqAt_reads _ _ A s _ _ _ _ (reads_cal e) (reads_cal e') (SeqAt.canLay_of_shaped sh) (SeqAt.canLay_of_shaped sh) (SeqAt.room_of_shaped sh hu)
    simpa [PyData.eqv, PyData.eqvAll] using this
theorem keq_of {A : Around} {s : Shared} {tot : Int} {kb : List (Int × Value)} {qs : List (Int × Int)} (hb : TabV tot s.heap kb qs) (hu : A.units + 64 < cLine) :
    ∀ {ka : List (Int × Value)} {ps : List (Int × Int)}, TabV tot s.heap ka ps → (∀ p ∈ ps, p.1 ∈ keysP qs ∧ cntP qs p.1 = p.2) → KeqHits A s kb ka true
  | [], [], _, _ => .nil
  | (i, v) :: r, q :: l, ⟨a, b, d⟩, hs => by
    dsimp only at a b
    obtain ⟨h1, h2⟩ := hs q List.mem_cons_self
    obtain ⟨y, hy, hcy⟩ := hb.some h1
    rw [h2] at hcy
    subst a
    have := KeqHits.hit (k := q.1) (v := v) (e := true) hy (cal_eqAt b hcy hu) (keq_of hb hu d fun p hp => hs p (List.mem_cons_of_mem _ hp))
    simpa using this
  | [], _ :: _, h, _ => h.elim
  | _ :: _, [], h, _ => h.elim
theorem dict_rc {A : Around} {s : Shared} {w : World} {tot : Int} {d1 d2 : Addr} {ps qs : List (Int × Int)} (h1 : Tab w tot s.heap d1 ps) (h2 : Tab w tot s.heap d2 qs) (hl : ps.length = qs.length) (hs : ∀ i, i ∈ keysP ps → i ∈ keysP qs ∧ cntP qs i = cntP ps i) (hu : A.in1.units + 64 < cLine) (hu' : A.units < cLine) :
    SeqAt.RcAt A s (.ref d1) (.ref d2) true := by
  have hn := h1.nodup
  obtain ⟨m1, k1, e1, t1⟩ := h1
  obtain ⟨m2, k2, e2, t2⟩ := h2
  intro p w' E Q h
  have hlen : k1.length = k2.length := by rw [t1.len, t2.len, hl]
  refine keq_eq (knd := intKind p w') (r := true) m1 m2 (dict_any e1) (dict_any e2) hu' (fun _ => keq_of t2 hu t1 fun q hq => ?_) ?_
  · obtain ⟨a, b⟩ := hs q.1 (List.mem_map.mpr ⟨q, hq, rfl⟩)
    exact ⟨a, by rw [b]; exact cnt_mem hn hq⟩
  · rw [hlen]; simpa using h
theorem tuple5 {e : Nat → Bool} (h0 : e 0 = true) (h1 : e 1 = true) (h2 : e 2 = true) (h3 : e 3 = true) (h4 : e 4 = true) : (List.range 5).all e = true := by
  simp [List.range, List.range.loop, h0, h1, h2, h3, h4]
theorem ent_ne {w : World} {A : Around} {E : Value → Shared → Prop} {s : Shared} {tot z : Int} {v1 v2 : Value} {f g : Int → Int} {ps qs : List (Int × Int)} {n : Nat} {Q : Value → Shared → Prop} (a : Ar A (n + 4)) (h1 : Ent w tot z s.heap v1 f ps) (h2 : Ent w tot z s.heap v2 g qs)
    (hz : 1 ≤ z) (hfg : ∀ x, 1 ≤ x → f x = g x) (hl : ps.length = qs.length) (hs : ∀ i, i ∈ keysP ps → i ∈ keysP qs ∧ cntP qs i = cntP ps i) (h : Q (.bool false) s) :
    wpAny (model Pr w) A (compareOp .NotEq v1 v2) Q E s := by
  obtain ⟨a1, d1, t1, t2, t3, t4, rfl, e1, e2⟩ := h1
  obtain ⟨a2, d2, u1, u2, u3, u4, rfl, g1, g2⟩ := h2
  have hun := a.un
  have i1 : A.in1.units ≤ A.units + 1 := by show A.units + _ ≤ _; omega
  have i2 : A.in1.in1.units ≤ A.units + 2 := by show A.units + _ + _ ≤ _; omega
  have hd : SeqAt.EqAt A.in1 s (.ref d1) (.ref d2) true := by
    by_cases q : d1 = d2
    · subst q; exact SeqAt.EqAt.same _
    · exact SeqAt.EqAt.of_refs q (dict_rc e2 g2 hl hs (by omega) (by omega))
  have hi : ∀ (x y : Int) (t u : Tok), x = y → SeqAt.EqAt A.in1 s (.int x t) (.int y u) true := by
    rintro x y t u rfl
    have := SeqAt.EqAt.int_int (A := A.in1) (s := s) x t x u
    simpa using this
  have key := SeqAt.RcNeAt.tuples (A := A) (e := fun _ => true) e1 g1 (by omega) (fun j h1 h2 => by
    match j, h1 with
    | 0, _ => exact hi _ _ _ _ (hfg 1 (by decide))
    | 1, _ => exact hi _ _ _ _ (hfg 2 (by decide))
    | 2, _ => exact hi _ _ _ _ (hfg 3 (by decide))
    | 3, _ => exact hi _ _ _ _ (hfg z hz)
    | 4, _ => exact hd
    | j + 5, h => exact absurd h (by simp))
  refine key Pr w E Q ?_
  exact h
noncomputable def fdHold : FuncData := fdGet 158 rfl
section
variable {w : World} {R : Shared → Shared → Prop} {s₀ s : Shared} {L : Addr} {m : Str → Option Value} {k₀ k : Heap} {mu : List (Addr × Obj)} {A : Around} {E : Value → Shared → Prop} {env : Env}
def OrV (w : World) (A : Around) (rest : List Expr) (pos : Pos) (env : Env) (whole : Sem Value) (Q : Bool → Shared → Prop) (E : Value → Shared → Prop) (c : Bool) (s : Shared) : Prop :=
  if c then Q true s else wpAny (model Pr w) A (PySem.isTrue (.BoolOp .Or rest pos) env whole) Q E s
theorem t_or {x : Expr} {rest : List Expr} {pos : Pos} {whole : Sem Value} {Q : Bool → Shared → Prop} (h : wpAny (model Pr w) A (PySem.isTrue x env (eval x env)) (OrV w A rest pos env whole Q E) E s) : wpAny (model Pr w) A (PySem.isTrue (.BoolOp .Or (x :: rest) pos) env whole) Q E s := isTrue_or h
theorem orv_false {rest : List Expr} {pos : Pos} {whole : Sem Value} {Q : Bool → Shared → Prop} (h : wpAny (model Pr w) A (PySem.isTrue (.BoolOp .Or rest pos) env whole) Q E s) : OrV w A rest pos env whole Q E false s := h
theorem t_or_nil {pos : Pos} {whole : Sem Value} {Q : Bool → Shared → Prop} (h : Q false s) : wpAny (model Pr w) A (PySem.isTrue (.BoolOp .Or [] pos) env whole) Q E s := isTrue_or_nil h
end
def encT (ts : List (List Nat × Nat)) : List Nat := (ts.map fun p => enc p.1 p.2).flatten
def PreOk (ts : List (List Nat × Nat)) : Prop := ∀ k, k ≤ ts.length → ∃ rs b, encT (ts.take k) = enc rs b ∧ (∀ x, levS (ts.take k) x = lev x rs b) ∧ CntOf (tabS (ts.take k)) rs ∧ wid rs + b ≤ 900
theorem EncAll.strs : ∀ {vs : List Value} {ts : List (List Nat × Nat)}, EncAll vs ts → ∃ ys, StrsAre vs ys ∧ ys.map (·.cps.toList) = ts.map fun p => enc p.1 p.2
  | [], [], _ => ⟨[], .nil, rfl⟩
  | v :: vs, p :: ps, ⟨⟨y, t, e, g⟩, h⟩ => by
    obtain ⟨ys, h1, h2⟩ := EncAll.strs h
    subst e
    exact ⟨y :: ys, .cons y t h1, by rw [List.map_cons, List.map_cons, h2, g]⟩
  | [], _ :: _, h => h.elim
  | _ :: _, [], h => h.elim
theorem lens_sum (ys : List Str) : (ys.map (·.length)).sum = ((ys.map (·.cps.toList)).flatten).length := by
  induction ys with
  | nil => rfl
  | cons y ys ih =>
    rw [List.map_cons, List.sum_cons, ih, List.map_cons, List.flatten_cons, List.length_append]
    rw [show y.length = y.cps.toList.length from (Array.length_toList ..).symm]
theorem len_empty : (Str.ofString "").length = 0 := by decide +kernel
set_option maxHeartbeats 2000000 in
theorem hold_spec {w : World} {s : Shared} {k : Heap} {A : Around} {vt vz : Value} {ts : List (List Nat × Nat)} {tot z : Int} {t3 : Tok} (C : Cx w k s) (a : Ar A 5) (ht : TextsAt k vt ts) (hsm : Small ts) (hpre : PreOk ts) (hsz : SizesAt k vz z) (hz1 : 1 ≤ z) (hz2 : z ≤ 100) :
    wpAny (model Pr w) A (call (.ref 158) [vt, vz, .int tot t3]) (Ret Kp s k (fun k' v => v = .bool true)) (fun _ _ => False) s := by
  obtain ⟨lt, vts, rfl, hlt, henc⟩ := id ht
  have hel := henc.len
  have hts := hsm.1
  refine enter (fd := fdHold) (binds := [("texts", .ref lt), ("sizes", vz), ("total", .int tot t3)]) (relKp w) C a rfl rfl rfl (BindsTo.of_eq rfl) (by decide) (locs rfl) (fun A' L s₁ a' F => ?_)
  repeat' walk_at "ev"
  rename Fm _ _ _ _ _ _ _ _ _ => F
  refine use_ret F (sums_spec F.cx (a'.le (by decide)) ht hsm hsz hz1 hz2) ?_
  rintro _ k1 s1 hs1 ⟨lS, vS, rfl, hlS, hS⟩ F
  repeat' walk_at "ev"
  rename Fm _ _ _ _ _ _ _ _ _ => F
  refine c_len F (IsList.mono hlt (hs1.trans F.led)) (by omega) fun t s' F => ?_
  repeat' walk_at "ev"
  rename Fm _ _ _ _ _ _ _ _ _ => F
  refine c_range1 F fun r u9 v9 s' F => ?_
  refine loop_range F a'.hd (by omega) (by omega) (by omega) (by omega) (fun i m k' mu => mu = [] ∧ m "texts" = some (.ref lt) ∧ m "sizes" = some vz ∧ m "total" = some (.int tot t3) ∧ m "sums" = some (.ref lS))
    ⟨rfl, by walk_at "lk", by walk_at "lk", by walk_at "lk", by walk_at "lk"⟩ ?_ ?_
  · rintro i ti I o' m k2 mu' s4 hlt' hsub ⟨rfl, htexts, hsizes, htotal, hsums⟩ F
    rw [show (0 : Int) + (i : Int) = (i : Int) from by omega] at *
    have hil : i ≤ ts.length := by omega
    obtain ⟨rs, b, hE, hLv, hCn, hW⟩ := hpre i hil
    obtain ⟨u, hu, hent⟩ := hS.2 i hil
    have hb2 : Sub k k2 := hs1.trans hsub
    have hsl := hS.1
    repeat' walk_at "ev"
    rename Fm _ _ _ _ _ _ _ _ _ => F
    refine GM.join ?_
    repeat' walk_at "ev"
    rename Fm _ _ _ _ _ _ _ _ _ => F
    refine e_slice ?_
    refine p_none (p_some ?_)
    repeat' walk_at "ev"
    rename Fm _ _ _ _ _ _ _ _ _ => F
    refine p_none ?_
    refine o_slice F (IsList.mono hlt (hb2.trans F.led)) (by omega) .none (.int _ _) .none (by simp) fun d2 s5 F => ?_
    rw [slicePick_upto'] at F
    obtain ⟨ys, hys, hyc⟩ := (henc.take i).strs
    have hcps : (Txt.join (Str.ofString "") ys).cps.toList = enc rs b := by rw [join_flat, hyc]; exact hE
    have hyl : (ys.map (·.length)).sum = wid rs + b := by rw [lens_sum, ← enc_len, ← hE, hyc]; rfl
    repeat' walk_at "ev"
    rename Fm _ _ _ _ _ _ _ _ _ => F
    refine c_join F ((isL_mk _ _).at F.at0) hys (by rw [hyl, len_empty]; omega) fun t6 s6 F => ?_
    have F := F.drop
    repeat' walk_at "ev"
    rename Fm _ _ _ _ _ _ _ _ _ => F
    refine t_or ?_
    repeat' walk_at "ev"
    rename Fm _ _ _ _ _ _ _ _ _ => F
    refine o_getL (IsList.mono hlS (hsub.trans F.led)) (by omega) (by omega) (by rw [Int.toNat_natCast]; exact hu) ?_
    repeat' walk_at "ev"
    rename Fm _ _ _ _ _ _ _ _ _ => F
    refine use_ret F (entry_enc (relKp w) F.cx (a'.le (by decide)) hcps hW (hsz.mono hb2) hz1 hz2) ?_
    rintro ve k3 s7 hs3 hE3 F
    have hsame := hCn.same (ent_cntOf rs)
    refine ent_ne a' (hent.mono (hsub.trans (hs3.trans F.led))) (hE3.mono F.led) hz1 (fun x _ => hLv x) hsame.1 hsame.2 ?_
    repeat' walk_at "ev"
    rename Fm _ _ _ _ _ _ _ _ _ => F
    refine orv_false (t_or ?_)
    repeat' walk_at "ev"
    rename Fm _ _ _ _ _ _ _ _ _ => F
    refine o_getL (IsList.mono hlS (hsub.trans (hs3.trans F.led))) (by omega) (by omega) (by rw [Int.toNat_natCast]; exact hu) ?_
    repeat' walk_at "ev"
    rename Fm _ _ _ _ _ _ _ _ _ => F
    refine use_ret F (due_spec (relKp w) F.cx (a'.le (by decide)) hcps hW (hsz.mono (hb2.trans hs3)) hz1 hz2) ?_
    rintro vd k4 s8 hs4 hE4 F
    have hsame := hCn.same (due_cntOf rs)
    refine ent_ne a' (hent.mono (hsub.trans (hs3.trans (hs4.trans F.led)))) (hE4.mono F.led) hz1 (fun x _ => hLv x) hsame.1 hsame.2 ?_
    repeat' walk_at "ev"
    rename Fm _ _ _ _ _ _ _ _ _ => F
    refine orv_false (t_or_nil ?_)
    refine ⟨fun q => Bool.noConfusion q, fun _ => ?_⟩
    have hb4 : Sub k1 k4 := hsub.trans (hs3.trans hs4)
    obtain ⟨ae, de, q1, q2, q3, q4, rfl, hte, hsmd, kvs, hdk, htv⟩ := hent
    repeat' walk_at "ev"
    rename Fm _ _ _ _ _ _ _ _ _ => F
    refine o_getL (IsList.mono hlS (hb4.trans F.led)) (by omega) (by omega) (by rw [Int.toNat_natCast]; exact hu) ?_
    repeat' walk_at "ev"
    rename Fm _ _ _ _ _ _ _ _ _ => F
    refine o_getT (IsTup.mono hte (hb4.trans F.led)) (by decide) (by decide) rfl ?_
    repeat' walk_at "ev"
    rename Fm _ _ _ _ _ _ _ _ _ => F
    have hkl := htv.len
    have hkl2 := tabS_len hsm i
    refine c_listD F a'.hd (DictK.mono hdk (hb4.trans F.led)) hsmd (by omega) fun D vsD nD s9 hID F => ?_
    repeat' walk_at "ev"
    rename Fm _ _ _ _ _ _ _ _ _ => F
    refine e_slice ?_
    refine p_none (p_some ?_)
    repeat' walk_at "ev"
    rename Fm _ _ _ _ _ _ _ _ _ => F
    refine p_none ?_
    refine o_slice F (IsList.mono hlt (hs1.trans (hb4.trans F.led))) (by omega) .none (.int _ _) .none (by simp) fun d5 s10 F => ?_
    rw [slicePick_upto'] at F
    obtain ⟨k5, hs5, hk5, F⟩ := F.freeze
    repeat' walk_at "ev"
    rename Fm _ _ _ _ _ _ _ _ _ => F
    have hsmi : Small (ts.take i) := ⟨by rw [List.length_take]; omega, fun p hp => hsm.2 p (List.mem_of_mem_take hp)⟩
    refine use_ret F (first_spec (relKp w) F.cx (a'.le (by decide)) ⟨d5, _, rfl, (isL_mk _ _).at hk5, henc.take i⟩ hsmi) ?_
    rintro _ k6 s11 hs6 ⟨lf, vf, rfl, hlf, hIf⟩ F
    refine ke_ne_ints ((isL_mk _ _).at F.at0) (IsList.mono hlf F.led) hID hIf a'.units64 ?_
    rw [htv.keys, show (tabS (ts.take i)).map (·.1) = fcT (ts.take i) from tabS_keys _, decide_eq_true rfl]
    repeat' walk_at "ev"
    rename Fm _ _ _ _ _ _ _ _ _ => F
    refine ⟨fun q => Bool.noConfusion q, fun _ => ?_⟩
    repeat' walk_at "ev"
    rename Fm _ _ _ _ _ _ _ _ _ => F
    have F := F.drop
    exact turn_next (mu := []) F (hsub.trans (hs3.trans (hs4.trans (hs5.trans hs6)))) ⟨rfl, by walk_at "lk", by walk_at "lk", by walk_at "lk", by walk_at "lk"⟩
  · rintro m k2 mu' s4 ⟨rfl, htexts, hsizes, htotal, hsums⟩ hsub F
    repeat' walk_at "ev"
    rename Fm _ _ _ _ _ _ _ _ _ => F
    exact Ret.of F rfl
noncomputable def fdCounts : FuncData := fdGet 163 rfl
section
variable {w : World} {R : Shared → Shared → Prop} {s₀ s : Shared} {L : Addr} {m : Str → Option Value} {k₀ k : Heap} {mu : List (Addr × Obj)} {A : Around} {E : Value → Shared → Prop} {env : Env}
theorem Fm.cells2 {c1 c2 : Addr} {v1 v2 : Option Value} (F : Fm w R s₀ k₀ L m k [] s) (h1 : s.heap.IsCell c1 v1 ∧ L < c1 ∧ k.get? c1 = none) (h2 : s.heap.IsCell c2 v2 ∧ L < c2 ∧ k.get? c2 = none) (hne : c2 ≠ c1) :
    ∃ k', Sub k k' ∧ k'.IsCell c1 v1 ∧ k'.IsCell c2 v2 ∧ Fm w R s₀ k₀ L m k' [] s := by
  obtain ⟨o1, d1, F1⟩ := F.cell h1
  obtain ⟨⟨o2, e2, d2⟩, a, b⟩ := h2
  have F2 := F1.adopt e2 (Nat.ne_of_gt a) (Nat.le_trans F.new (Nat.le_of_lt a)) b (by simpa using hne)
  obtain ⟨k1, hs1, hk1, F3⟩ := F2.freeze
  obtain ⟨k2, hs2, hk2, F4⟩ := F3.freeze
  exact ⟨k2, hs1.trans hs2, ⟨o1, hk2, d1⟩, ⟨o2, hs2 _ _ hk1, d2⟩, F4⟩
def IfV (w : World) (A : Around) (body orelse : Expr) (env : Env) (Q : Value → Shared → Prop) (E : Value → Shared → Prop) (c : Bool) (s : Shared) : Prop :=
  if c then wpAny (model Pr w) A (eval body env) Q E s else wpAny (model Pr w) A (eval orelse env) Q E s
theorem e_ifexp {test body orelse : Expr} {pos : Pos} {Q : Value → Shared → Prop} (h : wpAny (model Pr w) A (PySem.isTrue test env (eval test env)) (IfV w A body orelse env Q E) E s) : wpAny (model Pr w) A (eval (.IfExp test body orelse pos) env) Q E s := IfExp_ h
theorem ifv {body orelse : Expr} {Q : Value → Shared → Prop} {c : Bool} (h1 : c = true → wpAny (model Pr w) A (eval body env) Q E s) (h2 : c = false → wpAny (model Pr w) A (eval orelse env) Q E s) : IfV w A body orelse env Q E c s := by
  unfold IfV; cases c
  · exact h2 rfl
  · exact h1 rfl
end
theorem cal0_mk {k : Heap} {i c : Int} {t : Tok} : Cal 0 k (.int c t) i c := by unfold Cal; rw [if_pos (by decide)]; exact ⟨t, rfl⟩
set_option maxHeartbeats 1000000 in
theorem counts_spec {w : World} {R : Shared → Shared → Prop} {s : Shared} {k : Heap} {A : Around} {d : Addr} {ps : List (Int × Int)} {tot : Int} {t3 : Tok} (hR : Rel w R) (C : Cx w k s) (a : Ar A 2) (ht : Tab w tot k d ps) (hl : ps.length ≤ 1000) :
    wpAny (model Pr w) A (call (.ref 163) [.ref d, .int tot t3]) (Ret R s k (fun k' v => ∃ d', v = .ref d' ∧ Tab w 0 k' d' ps)) (fun _ _ => False) s := by
  have hn := ht.nodup
  obtain ⟨hsm, kvs, hd, htv⟩ := ht
  have hle := htv.len
  have hnd : (kvs.map (·.1)).Nodup := by rw [htv.keys]; exact hn
  refine enter_c (fd := fdCounts) (binds := [("table", .ref d), ("total", .int tot t3)]) hR C a rfl rfl rfl rfl rfl ?_ (fun A' L s₁ a' F hcell => ?_)
  · intro x hx
    simp only [List.mem_cons, List.not_mem_nil, _root_.or_false] at hx
    rcases hx with rfl | rfl
    · exact .inr ⟨rfl, rfl⟩
    · exact .inr ⟨rfl, rfl⟩
  obtain ⟨k1, hs1, hcl1, hcl2, F⟩ := F.cells2 (hcell "table" (L + 1) rfl) (hcell "total" (L + 2) rfl) (by simp)
  have hcl1 : k1.IsCell (L + 1) (some (.ref d)) := hcl1
  have hcl2 : k1.IsCell (L + 2) (some (.int tot t3)) := hcl2
  repeat' walk_at "ev"
  rename Fm _ _ _ _ _ _ _ _ _ => F
  refine e_dcomp (cl := [("total", L + 2), ("table", L + 1)]) rfl ?_
  refine e_cell (IsCell.mono hcl1 F.led) ?_
  refine compD_keys F a'.hd (DictK.mono hd hs1) hsm (by omega) (fun i acc => ∀ k' : Heap, TabV 0 k' acc (ps.take i)) (fun _ => trivial) ?_ ?_
  · rintro i key tk y acc C mc k2 mu' s2 hi hacc hs2 hmc F
    obtain ⟨c, hc, hcal⟩ := tabv_at htv hi
    have hva : valueAt kvs key = some y := valueAt_of_get hnd hi
    repeat' walk_at "ev"
    rename Fm _ _ _ _ _ _ _ _ _ => F
    refine ⟨key, tk, rfl, ?_⟩
    refine e_ifexp ?_
    repeat' walk_at "ev"
    rename Fm _ _ _ _ _ _ _ _ _ => F
    refine e_cell (IsCell.mono hcl2 (hs2.trans F.led)) ?_
    repeat' walk_at "ev"
    rename Fm _ _ _ _ _ _ _ _ _ => F
    have done : ∀ {y' : Value} {tc : Tok}, y' = .int c tc → ∀ k' : Heap, TabV 0 k' (stored acc key y') (ps.take (i + 1)) := by
      rintro y' tc rfl k'
      rw [← put_take hn hc]
      exact (hacc k').put cal0_mk
    refine ifv (fun q => ?_) (fun q => ?_)
    · have ev : tot.fmod 2 = 0 := by simpa using q
      obtain ⟨tc, rfl⟩ := (cal_even ev).mp hcal
      repeat' walk_at "ev"
      rename Fm _ _ _ _ _ _ _ _ _ => F
      refine e_cell (IsCell.mono hcl1 (hs2.trans F.led)) ?_
      repeat' walk_at "ev"
      rename Fm _ _ _ _ _ _ _ _ _ => F
      refine o_subD F (DictK.mono hd (hs1.trans (hs2.trans F.led))) hva fun s' F => ?_
      exact elt_of F (Sub.refl _) (done rfl)
    · have ev : ¬ tot.fmod 2 = 0 := by simpa using q
      obtain ⟨ta, u1, u2, u3, na, rfl, hta⟩ := (cal_odd ev).mp hcal
      repeat' walk_at "ev"
      rename Fm _ _ _ _ _ _ _ _ _ => F
      refine e_cell (IsCell.mono hcl1 (hs2.trans F.led)) ?_
      repeat' walk_at "ev"
      rename Fm _ _ _ _ _ _ _ _ _ => F
      refine o_subD F (DictK.mono hd (hs1.trans (hs2.trans F.led))) hva fun s' F => ?_
      repeat' walk_at "ev"
      rename Fm _ _ _ _ _ _ _ _ _ => F
      refine o_getT ((isT_mk _ _).at (F.led _ _ (hs2 _ _ (hs1 _ _ hta)))) (by decide) (by decide) rfl ?_
      exact elt_of F (Sub.refl _) (done rfl)
  · intro D od acc k2 s2 hacc hs2 hod F
    rw [hle, List.take_length] at hacc
    have hnm := F.nsm
    obtain ⟨k3, hs3, hk3, F⟩ := F.freeze
    repeat' walk_at "ev"
    rename Fm _ _ _ _ _ _ _ _ _ => F
    exact Ret.of F ⟨D, rfl, hnm, acc, hod.at hk3, hacc k3⟩
noncomputable def fdBack : FuncData := fdGet 168 rfl
theorem mul_flat (x : Str) (n : Int) : (Txt.mul x n).cps.toList = (List.replicate n.toNat x.cps.toList).flatten := by
  unfold Txt.mul
  split
  · rename_i h
    rw [show n.toNat = 0 from by omega]; rfl
  · split
    · rename_i h1 h2
      simp only [Bool.or_eq_true, beq_iff_eq] at h2
      rcases h2 with rfl | h2
      · simp
      · have e : x.cps.toList = [] := by
          have : x.cps.size = 0 := h2
          rw [← List.length_eq_zero_iff, Array.length_toList]; exact this
        rw [e]
        generalize n.toNat = m
        induction m with
        | zero => rfl
        | succ m ih => rw [List.replicate_succ, List.flatten_cons, ← ih]; rfl
    · have key : ∀ (m : Nat) (acc : Array Nat), ((List.replicate m x.cps).foldl (· ++ ·) acc).toList = acc.toList ++ (List.replicate m x.cps.toList).flatten := by
        intro m
        induction m with
        | zero => intro acc; simp
        | succ m ih => intro acc; rw [List.replicate_succ, List.foldl_cons, ih, List.replicate_succ]; simp
      show ((List.replicate n.toNat x.cps).foldl (· ++ ·) #[]).toList = _
      rw [key]; simp
def spell (ps : List (Int × Int)) : List Nat := ps.flatMap fun p => List.replicate p.2.toNat p.1.toNat
theorem spell_cons (p : Int × Int) (ps : List (Int × Int)) : spell (p :: ps) = List.replicate p.2.toNat p.1.toNat ++ spell ps := by simp [spell]
theorem spell_append (a b : List (Int × Int)) : spell (a ++ b) = spell a ++ spell b := by simp [spell]
theorem encR_rep (c r : Nat) : encR (List.replicate c r) = (List.replicate c (List.replicate r 32 ++ [9])).flatten := by
  induction c with
  | zero => rfl
  | succ c ih => rw [List.replicate_succ, encR_cons, ih, List.replicate_succ, List.flatten_cons]; simp
theorem spell_count : ∀ (ps : List (Int × Int)) (r : Nat), (keysP ps).Nodup → (∀ p ∈ ps, 0 ≤ p.1) → (spell ps).count r = (cntP ps r).toNat
  | [], r, _, _ => rfl
  | p :: ps, r, hn, hp => by
    have hn' := List.nodup_cons.mp hn
    have h0 := hp p List.mem_cons_self
    rw [spell_cons, List.count_append, spell_count ps r hn'.2 fun q hq => hp q (List.mem_cons_of_mem _ hq), cnt_cons, List.count_replicate]
    by_cases e : p.1 = r
    · have hz : cntP ps r = 0 := cnt_out (by rw [← e]; exact hn'.1)
      rw [if_pos e, hz, if_pos (by simp [e])]; rfl
    · have e' : ¬ (p.1.toNat == r) = true := by
        intro x
        have : p.1.toNat = r := by simpa using x
        omega
      rw [if_neg e, if_neg e', Nat.zero_add]
theorem CntOf.nonneg {ps : List (Int × Int)} {rs : List Nat} (h : CntOf ps rs) : ∀ p ∈ ps, ∃ r : Nat, r ∈ rs ∧ p.1 = r ∧ p.2 = (rs.count r : Int) := by
  intro p hp
  obtain ⟨r, hr, e⟩ := (h.mem p.1).mp (List.mem_map.mpr ⟨p, hp, rfl⟩)
  refine ⟨r, hr, e, ?_⟩
  have h1 := cnt_mem h.nd (i := p.1) (c := p.2) hp
  rw [e, h.cnt] at h1
  exact h1.symm
theorem CntOf.spell {ps : List (Int × Int)} {rs : List Nat} (h : CntOf ps rs) : (spell ps).Perm rs := by
  rw [List.perm_iff_count]
  intro r
  rw [spell_count ps r h.nd fun p hp => by obtain ⟨x, _, e, _⟩ := h.nonneg p hp; omega, h.cnt]
  simp
theorem CntOf.sum {ps : List (Int × Int)} {rs : List Nat} (h : CntOf ps rs) : (ps.map (·.2)).sum = (rs.length : Int) := by
  have e := h.spell.length_eq
  rw [← e]
  have hp : ∀ p ∈ ps, 0 ≤ p.2 := fun p hp => by obtain ⟨x, _, _, e⟩ := h.nonneg p hp; omega
  clear e h
  induction ps with
  | nil => rfl
  | cons p ps ih =>
    have h0 := hp p List.mem_cons_self
    rw [List.map_cons, List.sum_cons, spell_cons, List.length_append, List.length_replicate, ih fun q hq => hp q (List.mem_cons_of_mem _ hq)]
    omega
theorem wid_perm {a b : List Nat} (h : a.Perm b) : wid a = wid b := by
  unfold wid
  exact (h.map _).sum_nat
theorem spell_take_wid (ps : List (Int × Int)) (i : Nat) : wid (spell (ps.take i)) ≤ wid (spell ps) := by
  conv => rhs; rw [← List.take_append_drop i ps]
  rw [spell_append, wid_append]; omega
theorem reads_ii {h : Heap} {a : Addr} {x1 x2 : Int} {t1 t2 : Tok} {n : Nat} (e : h.get? a = some { cls := .type "tuple", data := .seq [.int x1 t1, .int x2 t2].toArray n }) : Reads h (.ref a) (.tuple [.int x1, .int x2]) [] :=
  reads_tuple_at e rfl rfl (.cons (as := []) (.int _ _) (.cons (as := []) (.int _ _) .nil))
theorem reads_bb {h : Heap} {a : Addr} {x1 x2 : Bool} {n : Nat} (e : h.get? a = some { cls := .type "list", data := .seq [.bool x1, .bool x2].toArray n }) : Reads h (.ref a) (.list [.bool x1, .bool x2]) [a] :=
  reads_list_at e rfl rfl (.cons (as := []) (.bool _) (.cons (as := []) (.bool _) .nil))
theorem strs_snoc : ∀ {vs : List Value} {ys : List Str} {y : Str} {t : Tok}, StrsAre vs ys → StrsAre (vs ++ [.str y t]) (ys ++ [y])
  | _, _, y, t, .nil => .cons y t .nil
  | _, _, y, t, .cons x u h => .cons x u (strs_snoc h)
def TxtAt (v : Value) (rs : List Nat) (b : Nat) : Prop := ∃ y t, v = .str y t ∧ y.cps.toList = enc rs b
section
variable {w : World} {R : Shared → Shared → Prop} {s₀ s : Shared} {L : Addr} {m : Str → Option Value} {k₀ k : Heap} {mu : List (Addr × Obj)} {A : Around} {E : Value → Shared → Prop} {env : Env}
theorem ws_enc {y : Str} {t : Tok} {rs : List Nat} {b : Nat} (hR : Rel w R) (C : Cx w k s) (a : Ar A 2) (hy : y.cps.toList = enc rs b) (hz : wid rs + b ≤ 900) :
    wpAny (model Pr w) A (call (.ref 104) [.str (y ++ Str.ofString "x") t]) (Ret R s k (fun k' v => WsAt k' v (cntL rs, (b : Int), ((wid rs + b : Nat) : Int), (rs.length : Int)))) (fun _ _ => False) s := by
  have := ws_spec (y := y ++ Str.ofString "x") (t := t) (l := enc rs b) hR C a (by rw [cat_list, hy, x_list]) (fun c hc => enc_mem hc) (by rw [enc_len]; omega)
  rw [wsF_enc] at this
  exact this
theorem o_catx {y : Str} {t u : Tok} {rs : List Nat} {b : Nat} {Q : Value → Shared → Prop} (F : Fm w R s₀ k₀ L m k mu s) (hy : y.cps.toList = enc rs b) (hz : wid rs + b ≤ 900) (h : ∀ t s', Fm w R s₀ k₀ L m k mu s' → Q (.str (y ++ Str.ofString "x") t) s') :
    wpAny (model Pr w) A (binaryOp .Add (.str y t) (.str (Str.ofString "x") u)) Q E s :=
  o_cat F (by rw [sum_size hy, enc_len, show (Str.ofString "x").length = 1 from by decide +kernel, sizeLine_eq]; omega) h
end
set_option maxHeartbeats 2000000 in
theorem back_spec {w : World} {R : Shared → Shared → Prop} {s : Shared} {k : Heap} {A : Around} {yw yt yl : Str} {t1 t2 t3 t4 : Tok} {dc : Addr} {ps : List (Int × Int)} {rs rs' : List Nat} {b : Nat} {lv : Int} (hR : Rel w R) (C : Cx w k s) (a : Ar A 5)
    (hw : yw.cps.toList = enc rs b) (htn : yt.cps.toList = enc rs' b) (hp : rs'.Perm rs) (hl : yl.cps.toList = List.replicate b 32) (hW : wid rs + b ≤ 800) (ht : Tab w 0 k dc ps) (hc : CntOf ps rs) (hlv : lv = lev 1 rs b) (hpl : ps.length ≤ 1000) :
    wpAny (model Pr w) A (call (.ref 168) [.str yw t1, .str yt t2, .ref dc, .int lv t3, .str yl t4]) (Ret R s k (fun k' v => v = .bool true)) (fun _ _ => False) s := by
  obtain ⟨hsm, kvs, hd, htv⟩ := id ht
  have hle := htv.len
  have hnd : (kvs.map (·.1)).Nodup := by rw [htv.keys]; exact hc.nd
  have hsp := hc.spell
  have hWs : wid (spell ps) = wid rs := wid_perm hsp
  have hWt : wid rs' = wid rs := wid_perm hp
  refine enter_c (fd := fdBack) (binds := [("whole", .str yw t1), ("turned", .str yt t2), ("counts", .ref dc), ("level", .int lv t3), ("tail", .str yl t4)]) hR C a rfl rfl rfl rfl rfl ?_ (fun A' L s₁ a' F hcell => ?_)
  · intro x hx
    simp only [List.mem_cons, List.not_mem_nil, _root_.or_false] at hx
    rcases hx with rfl | rfl | rfl | rfl | rfl
    · exact .inl rfl
    · exact .inl rfl
    · exact .inr ⟨rfl, rfl⟩
    · exact .inl rfl
    · exact .inl rfl
  obtain ⟨k1, hs1, hcl, F⟩ := F.cellK (by simp) (hcell "counts" (L + 1) rfl)
  have hcl : k1.IsCell (L + 1) (some (.ref dc)) := hcl
  repeat' walk_at "ev"
  rename Fm _ _ _ _ _ _ _ _ _ => F
  refine GM.join ?_
  repeat' walk_at "ev"
  rename Fm _ _ _ _ _ _ _ _ _ => F
  refine e_comp (cl := [("counts", L + 1)]) rfl ?_
  refine e_cell (IsCell.mono hcl F.led) ?_
  refine comp_keys F a'.hd (DictK.mono hd hs1) hsm (by omega) (fun i acc => ∃ ys, StrsAre acc ys ∧ (ys.map (·.cps.toList)).flatten = encR (spell (ps.take i))) ⟨[], .nil, rfl⟩ ?_ ?_
  · rintro i key tk y acc C mc k2 mu' s2 hi ⟨ys, hys, hyf⟩ hs2 hmc F
    obtain ⟨c, hc1, hcal⟩ := tabv_at htv hi
    obtain ⟨tc, rfl⟩ := cal0 hcal
    have hva : valueAt kvs key = some _ := valueAt_of_get hnd hi
    obtain ⟨r, hr, hkr, hcr⟩ := hc.nonneg (key, c) (List.mem_of_getElem? hc1)
    dsimp only at hkr hcr
    have hrw := rs_le rs r hr
    have hcl2 : rs.count r ≤ rs.length := List.count_le_length ..
    have hrl := rs_len_le rs
    repeat' walk_at "ev"
    rename Fm _ _ _ _ _ _ _ _ _ => F
    refine e_cell (IsCell.mono hcl (hs2.trans F.led)) ?_
    repeat' walk_at "ev"
    rename Fm _ _ _ _ _ _ _ _ _ => F
    refine o_subD F (DictK.mono hd (hs1.trans (hs2.trans F.led))) hva fun s' F => ?_
    have hlen : (Txt.mul (Str.ofString " ") key ++ Str.ofString "\t").length ≤ 1000 := by
      rw [show (Txt.mul (Str.ofString " ") key ++ Str.ofString "\t").length = (Txt.mul (Str.ofString " ") key ++ Str.ofString "\t").cps.toList.length from (Array.length_toList ..).symm, cat_list, mul_sp, tab_list, List.length_append, List.length_replicate]
      simp only [List.length_cons, List.length_nil]; omega
    refine o_rep F (mulOk_of 1000 1000 hlen (by omega) (by omega) (by decide) (by decide)) fun t9 s9 F => ?_
    refine elt_of F (Sub.refl _) ⟨ys ++ [_], strs_snoc hys, ?_⟩
    rw [List.map_append, List.flatten_append, hyf, List.take_add_one, hc1, Option.toList_some, spell_append, encR_append]
    congr 1
    simp only [List.map_cons, List.map_nil, List.flatten_cons, List.flatten_nil, List.append_nil]
    rw [mul_flat, cat_list, mul_sp, tab_list, spell_cons]
    simp only [spell, List.flatMap_nil, List.append_nil]
    rw [encR_rep]
  intro D n' acc k2 C mc s2 hJ hs2
  obtain ⟨ys, hys, hyf⟩ := hJ
  rw [hle, List.take_length] at hyf
  have hyl : (ys.map (·.length)).sum = wid rs := by
    rw [lens_sum, hyf, ← hWs]
    have := enc_len (spell ps) 0
    simpa [enc] using this
  refine behind_none fun s3 F => ?_
  repeat' walk_at "ev"
  rename Fm _ _ _ _ _ _ _ _ _ => F
  refine c_join F ((isL_mk _ _).at F.at0) hys (by rw [hyl, len_empty]; omega) fun t6 s6 F => ?_
  have F := F.drop
  have hjc : (Txt.join (Str.ofString "") ys).cps.toList = encR (spell ps) := by rw [join_flat, hyf]
  have hspl : (Txt.join (Str.ofString "") ys ++ yl).cps.toList = enc (spell ps) b := by rw [cat_list, hjc, hl]; rfl
  repeat' walk_at "ev"
  rename Fm _ _ _ _ _ _ _ _ _ => F
  refine o_cat F ?_ fun t7 s7 F => ?_
  · rw [sum_size hjc, sum_size hl, List.length_replicate, sizeLine_eq]
    have := enc_len (spell ps) 0
    simp only [enc, List.replicate_zero, List.append_nil] at this
    rw [this]; omega
  repeat' walk_at "ev"
  rename Fm _ _ _ _ _ _ _ _ _ => F
  refine o_catx F hw (by omega) fun t8 s8 F => ?_
  repeat' walk_at "ev"
  rename Fm _ _ _ _ _ _ _ _ _ => F
  refine use_ret F (ws_enc hR F.cx (a'.le (by decide)) hw (by omega)) ?_
  rintro vb k3 s9 hs3 hwb F
  obtain ⟨x, nm, ct, vs, q1, q2, q3, y', ty, rfl, hi, hn, hct, hI⟩ := id hwb
  repeat' walk_at "ev"
  rename Fm _ _ _ _ _ _ _ _ _ => F
  refine g_attr F (hi.mono F.led) (ws_n w) rfl rfl fun s' F => ?_
  repeat' walk_at "ev"
  rename Fm _ _ _ _ _ _ _ _ _ => F
  refine g_attr F (hi.mono F.led) (ws_nt w) rfl rfl fun s' F => ?_
  repeat' walk_at "ev"
  rename Fm _ _ _ _ _ _ _ _ _ => F
  refine o_tuple F (by exact Nat.le_of_ble_eq_true rfl) fun dt s' F => ?_
  repeat' walk_at "ev"
  rename Fm _ _ _ _ _ _ _ _ _ => F
  refine e_cell (IsCell.mono hcl ((hs2.trans hs3).trans F.led)) ?_
  repeat' walk_at "ev"
  rename Fm _ _ _ _ _ _ _ _ _ => F
  refine use_ret F (cc_spec hR F.cx (a'.le (by decide)) (ht.mono (hs1.trans (hs2.trans hs3)))) ?_
  rintro _ k4 s10 hs4 ⟨t10, rfl⟩ F
  repeat' walk_at "ev"
  rename Fm _ _ _ _ _ _ _ _ _ => F
  refine o_tuple F (by exact Nat.le_of_ble_eq_true rfl) fun dt2 s' F => ?_
  refine ne_dataH (reads_ii F.at1) (reads_ii F.at0) (by simp [SeqAt.shaped, PyData.canLay0, PyData.canLayAll0, PyData.depth, PyData.depthAll]) (by simp [SeqAt.shaped, PyData.canLay0, PyData.canLayAll0, PyData.depth, PyData.depthAll]) a'.units64 ?_
  have heq : PyData.eqv (.tuple [.int ((wid rs + b : Nat) : Int), .int (rs.length : Int)]) (.tuple [.int lv, .int (ps.map (·.2)).sum]) = true := by
    simp only [PyData.eqv, PyData.eqvAll, hlv, lev_one, hc.sum, beq_self_eq_true, Bool.and_self]
  rw [heq]
  have F := F.drop.drop
  repeat' walk_at "ev"
  rename Fm _ _ _ _ _ _ _ _ _ => F
  refine ⟨fun q => Bool.noConfusion q, fun _ => ?_⟩
  repeat' walk_at "ev"
  rename Fm _ _ _ _ _ _ _ _ _ => F
  have hi4 := hi.mono hs4
  have hwb4 := hwb.mono hs4
  refine g_meth F (hi4.mono F.led) (ws_equ w) (isFn_equ w) rfl ?_
  repeat' walk_at "ev"
  rename Fm _ _ _ _ _ _ _ _ _ => F
  refine o_catx (rs := spell ps) (b := b) F hspl (by omega) fun t8 s8 F => ?_
  repeat' walk_at "ev"
  rename Fm _ _ _ _ _ _ _ _ _ => F
  refine use_ret F (ws_enc hR F.cx (a'.le (by decide)) hspl (by omega)) ?_
  rintro vs2 k5 s11 hs5 hws2 F
  repeat' walk_at "ev"
  rename Fm _ _ _ _ _ _ _ _ _ => F
  refine use_ret F (equ_spec hR F.cx a' (hwb4.mono hs5) hws2) ?_
  rintro _ k6 s12 hs6 rfl F
  repeat' walk_at "ev"
  rename Fm _ _ _ _ _ _ _ _ _ => F
  refine o_catx F htn (by omega) fun t8 s8 F => ?_
  repeat' walk_at "ev"
  rename Fm _ _ _ _ _ _ _ _ _ => F
  refine use_ret F (ws_enc hR F.cx (a'.le (by decide)) htn (by omega)) ?_
  rintro vt k7 s13 hs7 hwt F
  obtain ⟨xt, nm', ct', vs', q1', q2', q3', y'', ty', rfl, hit, hn', hct', hI'⟩ := id hwt
  refine g_meth F (hit.mono F.led) (ws_equ w) (isFn_equ w) rfl ?_
  repeat' walk_at "ev"
  rename Fm _ _ _ _ _ _ _ _ _ => F
  refine use_ret F (equ_spec hR F.cx a' hwt (hwb4.mono (hs5.trans (hs6.trans hs7)))) ?_
  rintro _ k8 s14 hs8 rfl F
  repeat' walk_at "ev"
  rename Fm _ _ _ _ _ _ _ _ _ => F
  refine o_list F (by exact Nat.le_of_ble_eq_true rfl) fun d9 s' F => ?_
  repeat' walk_at "ev"
  rename Fm _ _ _ _ _ _ _ _ _ => F
  refine o_list F (by exact Nat.le_of_ble_eq_true rfl) fun d10 s' F => ?_
  refine eq_dataH (reads_bb F.at1) (reads_bb F.at0) (by simp [SeqAt.shaped, PyData.canLay0, PyData.canLayAll0, PyData.depth, PyData.depthAll]) (by simp [SeqAt.shaped, PyData.canLay0, PyData.canLayAll0, PyData.depth, PyData.depthAll]) a'.units64 ?_
  rw [show decide (cntL rs = cntL (spell ps) ∧ (b : Int) = (b : Int)) = true from decide_eq_true ⟨(cntL_perm hsp).symm, rfl⟩, show decide (cntL rs' = cntL rs ∧ (b : Int) = (b : Int)) = true from decide_eq_true ⟨cntL_perm hp, rfl⟩]
  repeat' walk_at "ev"
  rename Fm _ _ _ _ _ _ _ _ _ => F
  exact Ret.of F (by simp [PyData.eqv, PyData.eqvAll])
noncomputable def fdOne : FuncData := fdGet 173 rfl
theorem levW_tup {ts : Int} (h1 : 1 ≤ ts) (rs : List Nat) (b : Nat) : levW ts (cntL rs, (b : Int), ((wid rs + b : Nat) : Int), (rs.length : Int)) = lev ts rs b := by rw [← wsF_enc]; exact levW_enc h1 rs b
theorem readsAll_of {h : Heap} : ∀ (vs : List Value) (n j : Nat) (D : Nat → PyData), vs.length = n → (∀ i, i < n → ∃ v, vs[i]? = some v ∧ Reads h v (D (j + i)) []) → ReadsAll h vs ((List.range' j n).map D) []
  | [], n, j, D, e, _ => by rw [← e]; exact .nil
  | v :: vs, n, j, D, e, hr => by
    cases n with
    | zero => cases e
    | succ n =>
      rw [List.range'_succ, List.map_cons]
      obtain ⟨v', e1, e2⟩ := hr 0 (Nat.succ_pos _)
      simp only [List.getElem?_cons_zero, Option.some.injEq] at e1
      subst e1
      refine .cons (as := []) e2 (readsAll_of vs n (j + 1) D (by simpa using e) fun i hi => ?_)
      obtain ⟨v', e1, e2⟩ := hr (i + 1) (by omega)
      refine ⟨v', by simpa using e1, ?_⟩
      rw [show j + 1 + i = j + (i + 1) from by omega]; exact e2
def witD (f g : Int → Int) (i : Nat) : PyData := .tuple [.int (1 + (i : Int)), .int (f (1 + i)), .int (g (1 + i))]
theorem WitAt.reads {h : Heap} {v : Value} {n : Nat} {f g : Int → Int} (x : WitAt h v n f g) : ∃ as, Reads h v (.list ((List.range' 0 n).map (witD f g))) as := by
  obtain ⟨l, vs, rfl, ⟨o, e, c, q, d⟩, hl, hv⟩ := x
  refine ⟨_, reads_list_at e c d (readsAll_of vs n 0 (witD f g) hl fun i hi => ?_)⟩
  obtain ⟨a, t1, t2, t3, items, e1, e2, rfl⟩ := hv i hi
  obtain ⟨o', e', c', q', d'⟩ := e2
  rw [Nat.zero_add]
  exact ⟨_, e1, reads_tuple_at e' c' d' (.cons (as := []) (.int _ _) (.cons (as := []) (.int _ _) (.cons (as := []) (.int _ _) .nil)))⟩
theorem wit_lay (f g : Int → Int) : ∀ l : List Nat, PyData.canLayAll0 (l.map (witD f g)) = true ∧ PyData.depthAll (l.map (witD f g)) ≤ 1
  | [] => ⟨rfl, by simp [PyData.depthAll]⟩
  | i :: l => by
    obtain ⟨h1, h2⟩ := wit_lay f g l
    refine ⟨?_, ?_⟩
    · rw [List.map_cons]; simp only [PyData.canLayAll0, h1, Bool.and_true]; simp [witD, PyData.canLay0, PyData.canLayAll0]
    · rw [List.map_cons]; simp only [PyData.depthAll]
      have : (witD f g i).depth ≤ 1 := by simp [witD, PyData.depth, PyData.depthAll]
      omega
theorem wit_shaped (f g : Int → Int) (l : List Nat) : SeqAt.shaped (.list (l.map (witD f g))) = true := by
  obtain ⟨h1, h2⟩ := wit_lay f g l
  unfold SeqAt.shaped
  have e : PyData.canLay0 (.list (l.map (witD f g))) = true := by simp only [PyData.canLay0, h1]
  rw [e, Bool.true_and]
  refine decide_eq_true ?_
  simp only [PyData.depth]
  omega
theorem wit_eqv (f g : Int → Int) : ∀ l : List Nat, PyData.eqvAll (l.map (witD f g)) (l.map (witD f g)) = true
  | [] => rfl
  | i :: l => by
    rw [List.map_cons]; simp only [PyData.eqvAll, wit_eqv f g l, Bool.and_true]
    simp [witD, PyData.eqv, PyData.eqvAll]
theorem wit_eq {w : World} {A : Around} {E : Value → Shared → Prop} {s : Shared} {v1 v2 : Value} {n : Nat} {f g f' g' : Int → Int} {Q : Value → Shared → Prop} (h1 : WitAt s.heap v1 n f g) (h2 : WitAt s.heap v2 n f' g') (hf : ∀ x, 1 ≤ x → f x = f' x) (hg : ∀ x, 1 ≤ x → g x = g' x)
    (hu : A.units + 64 < cLine) (h : Q (.bool true) s) : wpAny (model Pr w) A (compareOp .Eq v1 v2) Q E s := by
  obtain ⟨as, r1⟩ := h1.reads
  obtain ⟨bs, r2⟩ := h2.reads
  have e : witD f g = witD f' g' := by
    funext i; unfold witD; rw [hf _ (by omega), hg _ (by omega)]
  rw [e] at r1
  refine eq_dataH r1 r2 (wit_shaped _ _ _) (wit_shaped _ _ _) hu ?_
  rw [show PyData.eqv (.list ((List.range' 0 n).map (witD f' g'))) (.list ((List.range' 0 n).map (witD f' g'))) = true from by simp only [PyData.eqv]; exact wit_eqv _ _ _]
  exact h
theorem WitAt.mono {k k' : Heap} {v : Value} {n : Nat} {f g : Int → Int} (h : WitAt k v n f g) (hs : Sub k k') : WitAt k' v n f g := by
  obtain ⟨l, vs, e, a, b, c⟩ := h
  refine ⟨l, vs, e, IsList.mono a hs, b, fun i hi => ?_⟩
  obtain ⟨x, t1, t2, t3, items, e1, e2, e3⟩ := c i hi
  exact ⟨x, t1, t2, t3, items, e1, IsTup.mono e2 hs, e3⟩
theorem reads_b3 {h : Heap} {a : Addr} {x1 x2 x3 : Bool} {n : Nat} (e : h.get? a = some { cls := .type "list", data := .seq [.bool x1, .bool x2, .bool x3].toArray n }) : Reads h (.ref a) (.list [.bool x1, .bool x2, .bool x3]) [a] :=
  reads_list_at e rfl rfl (.cons (as := []) (.bool _) (.cons (as := []) (.bool _) (.cons (as := []) (.bool _) .nil)))
theorem rs_lt : ∀ (rs : List Nat), ∀ r ∈ rs, r < wid rs
  | [], r, h => by cases h
  | x :: rs, r, h => by
    rw [wid_cons]
    rcases List.mem_cons.mp h with rfl | h
    · omega
    · have := rs_lt rs r h; omega
theorem mx_le_wid (rs : List Nat) : mx rs ≤ wid rs := by
  rcases Nat.lt_or_ge (wid rs) (mx rs) with q | q
  · obtain ⟨r, hr, e⟩ := lt_mx.mp q
    have := rs_lt rs r hr
    omega
  · exact q
theorem max_runs {rs : List Nat} {b : Nat} {M : Int} (hne : 1 ≤ mx rs) (hM : M ∈ castL (rs ++ [b])) (hle : ∀ a, a ∈ castL (rs ++ [b]) → a ≤ M) : M = max ((mx rs : Int) - 1) b := by
  obtain ⟨x, hx, e⟩ := List.mem_map.mp hM
  have hb : (b : Int) ≤ M := hle _ (List.mem_map.mpr ⟨b, by simp, rfl⟩)
  obtain ⟨r, hr, q⟩ := lt_mx.mp (show mx rs - 1 < mx rs by omega)
  have h1 : (r : Int) ≤ M := hle _ (List.mem_map.mpr ⟨r, by simp [hr], rfl⟩)
  have h2 : r < mx rs := lt_mx.mpr ⟨r, hr, Nat.le_refl _⟩
  have h3 : M ≤ max ((mx rs : Int) - 1) b := by
    rcases List.mem_append.mp hx with hx | hx
    · have := lt_mx.mpr ⟨x, hx, Nat.le_refl _⟩
      omega
    · rw [List.mem_singleton] at hx; subst hx; omega
  omega
set_option maxHeartbeats 2000000 in
theorem one_spec {w : World} {R : Shared → Shared → Prop} {s : Shared} {k : Heap} {A : Around} {yw yo yp : Str} {t1 t2 t3 : Tok} {rs ro pr : List Nat} {b : Nat} (hR : Rel w R) (C : Cx w k s) (a : Ar A 5)
    (hw : yw.cps.toList = enc rs b) (ho : yo.cps.toList = enc ro b) (hpc : yp.cps.toList = enc pr 0) (hp : rs.Perm (pr ++ ro)) (hne : pr ≠ []) (hmx : 2 ≤ mx rs) (hW : wid rs + b ≤ 800) :
    wpAny (model Pr w) A (call (.ref 173) [.str yw t1, .str yo t2, .str yp t3]) (Ret R s k (fun k' v => v = .bool true)) (fun _ _ => False) s := by
  have hWw : wid rs = wid pr + wid ro := by rw [wid_perm hp, wid_append]
  have hWp : 1 ≤ wid pr := by
    cases pr with
    | nil => exact absurd rfl hne
    | cons r l => rw [wid_cons]; omega
  have hlv : ∀ x, lev x rs b = lev x pr 0 + lev x ro b := fun x => by rw [lev_perm hp, lev_append]
  have hmo : mx ro ≤ mx rs := by
    rcases Nat.lt_or_ge (mx rs) (mx ro) with q | q
    · obtain ⟨r, hr, e⟩ := lt_mx.mp q
      have : r < mx rs := lt_mx.mpr ⟨r, hp.mem_iff.mpr (List.mem_append_right _ hr), Nat.le_refl _⟩
      omega
    · exact q
  have hmw := mx_le_wid rs
  have hneq : ¬ cntL rs = cntL ro := fun e => by
    cases pr with
    | nil => exact hne rfl
    | cons r l =>
      have h1 := cntL_get rs r
      rw [e, cntL_get, hp.count_eq, List.count_append, List.count_cons_self] at h1
      omega
  have lf := cntL_len rs
  have lo := cntL_len ro
  refine enter (fd := fdOne) (binds := [("whole", .str yw t1), ("without", .str yo t2), ("piece", .str yp t3)]) hR C a rfl rfl rfl (BindsTo.of_eq rfl) (by decide) (locs rfl) (fun A' L s₁ a' F => ?_)
  repeat' walk_at "ev"
  rename Fm _ _ _ _ _ _ _ _ _ => F
  refine o_catx F hw (by omega) fun t8 s8 F => ?_
  repeat' walk_at "ev"
  rename Fm _ _ _ _ _ _ _ _ _ => F
  refine use_ret F (ws_enc hR F.cx (a'.le (by decide)) hw (by omega)) ?_
  rintro vf k1 s2 hs1 hwf F
  repeat' walk_at "ev"
  rename Fm _ _ _ _ _ _ _ _ _ => F
  refine o_catx F ho (by omega) fun t8 s8 F => ?_
  repeat' walk_at "ev"
  rename Fm _ _ _ _ _ _ _ _ _ => F
  refine use_ret F (ws_enc hR F.cx (a'.le (by decide)) ho (by omega)) ?_
  rintro vr k2 s3 hs2 hwr F
  have hwf := hwf.mono hs2
  obtain ⟨xf, nm, ct, vs, q1, q2, q3, y', ty, rfl, hif, hn, hct, hI⟩ := id hwf
  obtain ⟨xr, nm', ct', vs', q1', q2', q3', y'', ty', rfl, hir, hn', hct', hI'⟩ := id hwr
  repeat' walk_at "ev"
  rename Fm _ _ _ _ _ _ _ _ _ => F
  refine g_meth F (hir.mono F.led) (ws_les w) (isFn_les w) rfl ?_
  repeat' walk_at "ev"
  rename Fm _ _ _ _ _ _ _ _ _ => F
  refine use_ret F (les_true hR F.cx (a'.le (by decide)) hwr hwf (by dsimp only; omega) (by dsimp only; omega) (by dsimp only; omega) (by dsimp only; omega) (by dsimp only; omega) (by dsimp only; omega) fun ts hts => ?_) ?_
  · rw [levW_tup (by omega), levW_tup (by omega), hlv]
    have := lev_pos (ts := ts) (by omega) hne 0
    omega
  rintro _ k3 s4 hs3 rfl F
  repeat' walk_at "ev"
  rename Fm _ _ _ _ _ _ _ _ _ => F
  refine g_meth F ((hif.mono hs3).mono F.led) (ws_les w) (isFn_les w) rfl ?_
  repeat' walk_at "ev"
  rename Fm _ _ _ _ _ _ _ _ _ => F
  refine use_ret F (les_false hR F.cx (a'.le (by decide)) (hwf.mono hs3) (hwr.mono hs3) (by dsimp only; omega)) ?_
  rintro _ k4 s5 hs4 rfl F
  have hb4 := hs3.trans hs4
  repeat' walk_at "ev"
  rename Fm _ _ _ _ _ _ _ _ _ => F
  refine g_meth F ((hif.mono hb4).mono F.led) (ws_equ w) (isFn_equ w) rfl ?_
  repeat' walk_at "ev"
  rename Fm _ _ _ _ _ _ _ _ _ => F
  refine use_ret F (equ_spec hR F.cx a' (hwf.mono hb4) (hwr.mono hb4)) ?_
  rintro _ k5 s6 hs5 rfl F
  have hb5 := hb4.trans hs5
  repeat' walk_at "ev"
  rename Fm _ _ _ _ _ _ _ _ _ => F
  refine o_list F (by exact Nat.le_of_ble_eq_true rfl) fun d9 s' F => ?_
  repeat' walk_at "ev"
  rename Fm _ _ _ _ _ _ _ _ _ => F
  refine o_list F (by exact Nat.le_of_ble_eq_true rfl) fun d10 s' F => ?_
  refine ne_dataH (reads_b3 F.at1) (reads_b3 F.at0) (by simp [SeqAt.shaped, PyData.canLay0, PyData.canLayAll0, PyData.depth, PyData.depthAll]) (by simp [SeqAt.shaped, PyData.canLay0, PyData.canLayAll0, PyData.depth, PyData.depthAll]) a'.units64 ?_
  rw [show decide (cntL rs = cntL ro ∧ (b : Int) = (b : Int)) = false from decide_eq_false fun e => hneq e.1]
  have F := F.drop.drop
  rw [show PyData.eqv (.list [.bool true, .bool false, .bool false]) (.list [.bool true, .bool false, .bool false]) = true from by simp [PyData.eqv, PyData.eqvAll]]
  repeat' walk_at "ev"
  rename Fm _ _ _ _ _ _ _ _ _ => F
  refine ⟨fun q => Bool.noConfusion q, fun _ => ?_⟩
  repeat' walk_at "ev"
  rename Fm _ _ _ _ _ _ _ _ _ => F
  refine o_list F (by exact Nat.zero_le _) fun dd s' F => ?_
  repeat' walk_at "ev"
  rename Fm _ _ _ _ _ _ _ _ _ => F
  refine e_comp (cl := []) rfl ?_
  repeat' walk_at "ev"
  rename Fm _ _ _ _ _ _ _ _ _ => F
  refine GM.split ?_
  repeat' walk_at "ev"
  rename Fm _ _ _ _ _ _ _ _ _ => F
  have hyl : yw.length = wid rs + b := by rw [sum_size hw, enc_len]
  refine c_split F (by rw [tab_is]; rfl) (by omega) fun d1 vs1 s2 hvs1 F => ?_
  have hl1 : vs1.length = (Txt.split yw (Str.ofString "\t")).length := strs_length hvs1
  have hl2 : (Txt.split yw (Str.ofString "\t")).length = rs.length + 1 := by
    have := congrArg List.length (split_lens hw)
    simpa using this
  have hrl := rs_len_le rs
  obtain ⟨k6, hs6, hk6, F⟩ := F.freeze
  refine comp_list (vs := vs1) F a'.hd ((isL_mk _ _).at hk6) (by omega) (fun v r => ∃ y t t', v = .str y t ∧ r = .int (y.length : Int) t') ?_ ?_
  · rintro v C mc k3 mu3 s5 hv hs3 hmc F
    obtain ⟨yv, tv, rfl, hyv⟩ := strs_mem hvs1 v hv
    repeat' walk_at "ev"
    rename Fm _ _ _ _ _ _ _ _ _ => F
    refine c_lenS F ?_ fun t6 s6 F => ?_
    · have := part_short hyv; omega
    exact elt_of F (Sub.refl _) ⟨yv, tv, t6, rfl, rfl⟩
  intro D n' ys k7 C mc s5 hpa hs7
  have hI2 := ints_of_lens hvs1 hpa
  have hcast : (Txt.split yw (Str.ofString "\t")).map (fun y => (y.length : Int)) = castL (rs ++ [b]) := by
    unfold castL
    rw [← split_lens hw, List.map_map]; rfl
  rw [hcast] at hI2
  refine behind_none fun s6 F => ?_
  repeat' walk_at "ev"
  rename Fm _ _ _ _ _ _ _ _ _ => F
  refine c_maxL F a'.hd ((isL_mk _ _).at F.at0) hI2 (by simp [castL]) fun M t s' hM hMle F => ?_
  have hMx := max_runs (by omega) hM hMle
  have F := F.drop
  repeat' walk_at "ev"
  rename Fm _ _ _ _ _ _ _ _ _ => F
  refine c_range2 F fun r v9 s' F => ?_
  refine loop_range F a'.hd (by omega) (by omega) (by omega) (by omega) (fun i m k' mu => m "whole" = some (.str yw t1) ∧ m "piece" = some (.str yp t3) ∧ m "full" = some (.ref xf) ∧ m "rest" = some (.ref xr) ∧ m "due" = some (.ref dd) ∧
      ∃ (vs : List Value) (n' : Nat), mu = [(dd, lst vs n')] ∧ vs.length = i ∧
      ∀ j (h : j < i), ∃ (a : Addr) (t1 t2 t3 : Tok) (items : Array Value), vs[j]? = some (.ref a) ∧ IsTup k' a items ∧ items = [.int (1 + (j : Int)) t1, .int (lev (1 + j) rs b) t2, .int (lev (1 + j) rs b - lev (1 + j) pr 0) t3].toArray)
    ⟨by walk_at "lk", by walk_at "lk", by walk_at "lk", by walk_at "lk", by walk_at "lk", [], 0, rfl, rfl, fun j h => absurd h (Nat.not_lt_zero _)⟩ ?_ ?_
  · rintro i ti I o' m k8 mu' s1 hlt' hsub ⟨h1, h2, h3, h4, h5, vs8, n8, rfl, hvl, hvs⟩ F
    repeat' walk_at "ev"
    rename Fm _ _ _ _ _ _ _ _ _ => F
    refine gm_append F.at0 ?_
    repeat' walk_at "ev"
    rename Fm _ _ _ _ _ _ _ _ _ => F
    refine use_ret F (column_spec hR F.cx (a'.le (by decide)) (by omega)) ?_
    rintro _ k9 s9 hs9 ⟨u1, rfl⟩ F
    repeat' walk_at "ev"
    rename Fm _ _ _ _ _ _ _ _ _ => F
    refine use_ret F (column_spec hR F.cx (a'.le (by decide)) (by omega)) ?_
    rintro _ k10 s10 hs10 ⟨u2, rfl⟩ F
    repeat' walk_at "ev"
    rename Fm _ _ _ _ _ _ _ _ _ => F
    refine use_ret F (column_spec hR F.cx (a'.le (by decide)) (by omega)) ?_
    rintro _ k11 s11 hs11 ⟨u3, rfl⟩ F
    rw [hw, hpc, col_enc (by omega), col_enc (by omega)]
    repeat' walk_at "ev"
    rename Fm _ _ _ _ _ _ _ _ _ => F
    refine o_tuple F (by exact Nat.le_of_ble_eq_true rfl) fun dt s' F => ?_
    obtain ⟨k12, hs12, hk12, F⟩ := F.freeze
    repeat' walk_at "ev"
    rename Fm _ _ _ _ _ _ _ _ _ => F
    refine c_append F (by omega) fun n13 s' F => ⟨rfl, ?_⟩
    have hup : Sub k8 k12 := hs9.trans (hs10.trans (hs11.trans hs12))
    repeat' walk_at "ev"
    rename Fm _ _ _ _ _ _ _ _ _ => F
    refine turn_next (mu := [(dd, lst (vs8 ++ [Value.ref dt]) n13)]) F (hsub.trans hup) ⟨by walk_at "lk", by walk_at "lk", by walk_at "lk", by walk_at "lk", by walk_at "lk", _, n13, rfl, by simp [hvl], fun j hj => ?_⟩
    rcases Nat.lt_or_ge j i with h | h
    · obtain ⟨a, u1, u2, u3, items, e1, e2, e3⟩ := hvs j h
      exact ⟨a, u1, u2, u3, items, by rw [List.getElem?_append_left (by omega)]; exact e1, IsTup.mono e2 hup, e3⟩
    · have hji : j = i := by omega
      subst hji
      exact ⟨dt, _, _, _, _, by rw [List.getElem?_append_right (by omega)]; simp [hvl], (isT_mk _ 0).at hk12, rfl⟩
  · rintro m k8 mu' s1 ⟨h1, h2, h3, h4, h5, vs8, n8, rfl, hvl, hvs⟩ hsub F
    have hb8 : Sub k2 k8 := hb5.trans (hs6.trans (hs7.trans hsub))
    repeat' walk_at "ev"
    rename Fm _ _ _ _ _ _ _ _ _ => F
    refine g_meth F ((hif.mono hb8).mono F.led) (ws_wit w) (isFn_wit w) rfl ?_
    repeat' walk_at "ev"
    rename Fm _ _ _ _ _ _ _ _ _ => F
    refine use_ret F (wit_spec hR F.cx (a'.le (by decide)) (hwf.mono hb8) (hwr.mono hb8) (by dsimp only; omega) (by dsimp only; omega) (by dsimp only; omega) (by dsimp only; omega) fun ts hts => ?_) ?_
    · rw [levW_tup hts, levW_tup hts, hlv]
      have := lev_pos hts hne 0
      omega
    rintro vw k9 s9 hs9 hwit F
    repeat' walk_at "ev"
    rename Fm _ _ _ _ _ _ _ _ _ => F
    obtain ⟨k10, hs10, hk10, F⟩ := F.freeze
    have hdue : WitAt k10 (.ref dd) (M + 1).toNat (fun x => lev x rs b) (fun x => lev x rs b - lev x pr 0) := by
      refine ⟨dd, vs8, rfl, (isL_mk _ _).at hk10, by rw [hvl]; omega, fun i hi => ?_⟩
      obtain ⟨a, u1, u2, u3, items, e1, e2, e3⟩ := hvs i (by omega)
      exact ⟨a, u1, u2, u3, items, e1, IsTup.mono e2 (hs9.trans hs10), e3⟩
    have hN : (max (max (((cntL rs).length : Int) - 1) (b : Int)) (max (((cntL ro).length : Int) - 1) (b : Int)) + 1).toNat = (M + 1).toNat := by
      rw [lf, lo]; omega
    dsimp only at hwit
    rw [hN] at hwit
    refine wit_eq ((hwit.mono hs10).mono F.led) (hdue.mono F.led) (fun x hx => levW_tup hx rs b) (fun x hx => ?_) a'.units64 ?_
    · rw [levW_tup hx, hlv]; omega
    repeat' walk_at "ev"
    rename Fm _ _ _ _ _ _ _ _ _ => F
    exact Ret.of F rfl
def zz (qs : List (List Nat)) : List (List Nat × Nat) := qs.map fun r => (r, 0)
def tz (qs : List (List Nat)) (b : Nat) : List (List Nat × Nat) := zz qs ++ [([], b)]
theorem encT_zz (qs : List (List Nat)) : encT (zz qs) = enc qs.flatten 0 := by
  induction qs with
  | nil => rfl
  | cons q qs ih =>
    show enc q 0 ++ encT (zz qs) = _
    rw [ih, enc_append, List.flatten_cons]
theorem encT_append (a c : List (List Nat × Nat)) : encT (a ++ c) = encT a ++ encT c := by simp [encT]
theorem encT_tz (qs : List (List Nat)) (b : Nat) : encT (tz qs b) = enc qs.flatten b := by
  unfold tz
  rw [encT_append, encT_zz]
  show enc qs.flatten 0 ++ (enc [] b ++ []) = _
  rw [List.append_nil, enc_append, List.append_nil]
theorem levS_append (a c : List (List Nat × Nat)) (x : Int) : levS (a ++ c) x = levS a x + levS c x := by simp [levS]
theorem levS_zz (qs : List (List Nat)) (x : Int) : levS (zz qs) x = lev x qs.flatten 0 := by
  induction qs with
  | nil => simp [levS, zz, lev_nil]
  | cons q qs ih =>
    show lev x q 0 + levS (zz qs) x = _
    rw [ih, List.flatten_cons, lev_append]
theorem levS_tz (qs : List (List Nat)) (b : Nat) (x : Int) : levS (tz qs b) x = lev x qs.flatten b := by
  unfold tz
  rw [levS_append, levS_zz]
  show lev x qs.flatten 0 + (lev x [] b + 0) = _
  rw [Int.add_zero, ← lev_append, List.append_nil]
theorem tabS_snoc (a : List (List Nat × Nat)) (p : List Nat × Nat) : tabS (a ++ [p]) = addP (tabS a) (entP p.1) := by unfold tabS; rw [List.foldl_append]; rfl
theorem tabS_cnt : ∀ (ts : List (List Nat × Nat)), CntOf (tabS ts) (ts.map (·.1)).flatten := by
  have key : ∀ (ts : List (List Nat × Nat)) (ps : List (Int × Int)) (rs : List Nat), CntOf ps rs → CntOf (ts.foldl (fun ps p => addP ps (entP p.1)) ps) (rs ++ (ts.map (·.1)).flatten) := by
    intro ts
    induction ts with
    | nil => intro ps rs h; simpa using h
    | cons p ts ih =>
      intro ps rs h
      rw [List.foldl_cons, List.map_cons, List.flatten_cons, ← List.append_assoc]
      exact ih _ _ (h.add (ent_cntOf p.1))
  intro ts
  have := key ts [] [] CntOf.nil
  simpa [tabS] using this
theorem zz_fst (qs : List (List Nat)) : ((zz qs).map (·.1)).flatten = qs.flatten := by
  unfold zz; rw [List.map_map]
  have : ((fun x : List Nat × Nat => x.1) ∘ fun r => (r, 0)) = id := rfl
  rw [this, List.map_id]
theorem tz_fst (qs : List (List Nat)) (b : Nat) : ((tz qs b).map (·.1)).flatten = qs.flatten := by
  unfold tz; rw [List.map_append, List.flatten_append, zz_fst]; simp
theorem zz_take (qs : List (List Nat)) (k : Nat) : (zz qs).take k = zz (qs.take k) := by unfold zz; rw [List.map_take]
theorem zz_len (qs : List (List Nat)) : (zz qs).length = qs.length := List.length_map ..
theorem tz_len (qs : List (List Nat)) (b : Nat) : (tz qs b).length = qs.length + 1 := by unfold tz; rw [List.length_append, zz_len]; rfl
theorem wid_flat_take (qs : List (List Nat)) (k : Nat) : wid (qs.take k).flatten ≤ wid qs.flatten := by
  conv => rhs; rw [← List.take_append_drop k qs]
  rw [List.flatten_append, wid_append]; omega
theorem pre_tz {qs : List (List Nat)} {b : Nat} (h : wid qs.flatten + b ≤ 900) : PreOk (tz qs b) := by
  intro k hk
  rw [tz_len] at hk
  rcases Nat.lt_or_ge qs.length k with q | q
  · have e : k = (tz qs b).length := by rw [tz_len]; omega
    rw [e, List.take_length]
    refine ⟨qs.flatten, b, encT_tz _ _, levS_tz _ _, ?_, h⟩
    have := tabS_cnt (tz qs b)
    rwa [tz_fst] at this
  · have e : (tz qs b).take k = zz (qs.take k) := by
      unfold tz
      rw [List.take_append_of_le_length (by rw [zz_len]; exact q), zz_take]
    rw [e]
    refine ⟨(qs.take k).flatten, 0, encT_zz _, levS_zz _, ?_, ?_⟩
    · have := tabS_cnt (zz (qs.take k))
      rwa [zz_fst] at this
    · have := wid_flat_take qs k; omega
theorem wid_flat (qs : List (List Nat)) (h : ∀ q ∈ qs, wid q ≤ 9) : wid qs.flatten ≤ 9 * qs.length := by
  induction qs with
  | nil => simp [wid]
  | cons q qs ih =>
    have h1 := h q List.mem_cons_self
    have h2 := ih fun x hx => h x (List.mem_cons_of_mem _ hx)
    rw [List.flatten_cons, wid_append, List.length_cons]; omega
theorem small_tz {qs : List (List Nat)} {b : Nat} (h : ∀ q ∈ qs, wid q ≤ 9) (hl : qs.length ≤ 7) (hb : b ≤ 4) : Small (tz qs b) := by
  refine ⟨by rw [tz_len]; omega, fun p hp => ?_⟩
  unfold tz at hp
  rcases List.mem_append.mp hp with hp | hp
  · obtain ⟨q, hq, rfl⟩ := List.mem_map.mp hp
    have := h q hq
    show wid q + 0 ≤ 20; omega
  · rw [List.mem_singleton] at hp; subst hp
    show wid [] + b ≤ 20; simp [wid]; omega
theorem piece_wid (v : Int) : wid (pieceR v) ≤ 9 := by
  have h4 : 0 ≤ v.fmod 4 ∧ v.fmod 4 < 4 := ⟨Int.fmod_nonneg_of_pos _ (by decide), Int.fmod_lt_of_pos _ (by decide)⟩
  have h5 : 0 ≤ (v.fdiv 8).fmod 5 ∧ (v.fdiv 8).fmod 5 < 5 := ⟨Int.fmod_nonneg_of_pos _ (by decide), Int.fmod_lt_of_pos _ (by decide)⟩
  unfold pieceR
  rw [wid_cons]
  split
  · rw [wid_cons]; simp [wid]; omega
  · simp [wid]; omega
theorem piece_ne (v : Int) : pieceR v ≠ [] := by unfold pieceR; simp
theorem flat_rev (qs : List (List Nat)) : (qs.reverse.flatten).Perm qs.flatten := by
  have : ∀ qs : List (List Nat), (qs.reverse.flatten).Perm qs.flatten := by
    intro qs
    induction qs with
    | nil => exact List.Perm.refl _
    | cons q qs ih =>
      rw [List.reverse_cons, List.flatten_append, List.flatten_cons, List.flatten_cons, List.flatten_nil, List.append_nil]
      exact (List.perm_append_comm).trans (ih.append_left q)
  exact this qs
theorem flat_out {qs : List (List Nat)} {o : Nat} (h : o < qs.length) : qs.flatten.Perm (qs[o] ++ (qs.take o ++ qs.drop (o + 1)).flatten) := by
  have e : qs = qs.take o ++ qs[o] :: qs.drop (o + 1) := by
    rw [← List.drop_eq_getElem_cons h, List.take_append_drop]
  conv => lhs; rw [e]
  rw [List.flatten_append, List.flatten_cons, List.flatten_append, ← List.append_assoc, ← List.append_assoc]
  exact (List.perm_append_comm).append_right _
theorem EncAll.nth : ∀ {vs : List Value} {ts : List (List Nat × Nat)} {i : Nat} {p : List Nat × Nat}, EncAll vs ts → ts[i]? = some p → ∃ y t, vs[i]? = some (.str y t) ∧ y.cps.toList = enc p.1 p.2
  | [], [], i, p, _, h => by simp at h
  | v :: vs, q :: ps, 0, p, ⟨⟨y, t, e, g⟩, _⟩, h => by
    simp only [List.getElem?_cons_zero, Option.some.injEq] at h
    subst h; subst e
    exact ⟨y, t, rfl, g⟩
  | v :: vs, q :: ps, i + 1, p, ⟨_, hr⟩, h => by
    simp only [List.getElem?_cons_succ] at h ⊢
    exact EncAll.nth hr h
  | [], _ :: _, _, _, h, _ => h.elim
  | _ :: _, [], _, _, h, _ => h.elim
noncomputable def fdLaw : FuncData := fdGet 178 rfl
def drawsOf (ns : List Int) : List Int := (ns.take 5).map fun n => n.fmod 40
def piecesOf (ns : List Int) : List (List Nat) := (5 :: 14 :: drawsOf ns).map pieceR
theorem draws_bnd (ns : List Int) : ∀ x ∈ drawsOf ns, 0 ≤ x ∧ x < 40 := by
  intro x hx
  obtain ⟨n, _, rfl⟩ := List.mem_map.mp hx
  exact ⟨Int.fmod_nonneg_of_pos _ (by decide), Int.fmod_lt_of_pos _ (by decide)⟩
theorem draws_len (ns : List Int) : (drawsOf ns).length ≤ 5 := by unfold drawsOf; rw [List.length_map, List.length_take]; omega
theorem sum_bnd : ∀ l : List Int, (∀ x ∈ l, 0 ≤ x ∧ x < 40) → 0 ≤ l.sum ∧ l.sum ≤ 40 * (l.length : Int)
  | [], _ => by simp
  | x :: l, h => by
    have h1 := h x List.mem_cons_self
    have h2 := sum_bnd l fun y hy => h y (List.mem_cons_of_mem _ hy)
    rw [List.sum_cons, List.length_cons]; omega
theorem ints_mod : ∀ {vs : List Value} {ns : List Int} {ys : List Value}, IntsAre vs ns → Paired (fun v y => ∃ n t t', v = .int n t ∧ y = .int (n.fmod 40) t') vs ys → IntsAre ys (ns.map fun n => n.fmod 40)
  | _, _, _, .nil, .nil => .nil
  | _, _, _, .cons n t h, .cons ⟨n', t1, t2, e1, e2⟩ g => by
    cases e1; subst e2
    exact .cons _ _ (ints_mod h g)
theorem ints_take : ∀ {vs : List Value} {ns : List Int} (n : Nat), IntsAre vs ns → IntsAre (vs.take n) (ns.take n)
  | _, _, 0, _ => by simp; exact .nil
  | _, _, n + 1, .nil => by simp; exact .nil
  | _, _, n + 1, .cons y t h => by rw [List.take_succ_cons, List.take_succ_cons]; exact .cons y t (ints_take n h)
theorem ints_mem : ∀ {vs : List Value} {ns : List Int}, IntsAre vs ns → ∀ v ∈ vs, ∃ n t, v = .int n t
  | _, _, .nil, v, h => by cases h
  | _, _, .cons n t g, v, h => by
    rcases List.mem_cons.mp h with rfl | h
    · exact ⟨n, t, rfl⟩
    · exact ints_mem g v h
theorem enc_pieces : ∀ {vs : List Value} {ns : List Int} {ys : List Value}, IntsAre vs ns → Paired (fun v r => ∃ n t y t', v = .int n t ∧ r = .str y t' ∧ y.cps.toList = encR (pieceR n)) vs ys → EncAll ys (zz (ns.map pieceR))
  | _, _, _, .nil, .nil => trivial
  | _, _, _, .cons n t h, .cons ⟨n', t1, y, t2, e1, e2, e3⟩ g => by
    cases e1; subst e2
    refine ⟨⟨y, t2, rfl, ?_⟩, enc_pieces h g⟩
    rw [e3]; simp [enc]
section
variable {w : World} {R : Shared → Shared → Prop} {s₀ s : Shared} {L : Addr} {m : Str → Option Value} {k₀ k : Heap} {mu : List (Addr × Obj)} {A : Around} {E : Value → Shared → Prop} {env : Env}
theorem c_joinE {D : Addr} {vs : List Value} {t : Tok} {ts : List (List Nat × Nat)} {rs : List Nat} {b : Nat} {Q : Value → Shared → Prop} (F : Fm w R s₀ k₀ L m k mu s) (hl : s.heap.IsList D vs.toArray) (hE : EncAll vs ts) (hc : encT ts = enc rs b) (hW : wid rs + b ≤ 900)
    (h : ∀ y t s', y.cps.toList = enc rs b → Fm w R s₀ k₀ L m k mu s' → Q (.str y t) s') : wpAny (model Pr w) A (call (.builtin "str.join") [.str (Str.ofString "") t, .ref D]) Q E s := by
  obtain ⟨ys, h1, h2⟩ := hE.strs
  have c : (Txt.join (Str.ofString "") ys).cps.toList = enc rs b := by rw [join_flat, h2]; exact hc
  have l : (ys.map (·.length)).sum = wid rs + b := by rw [lens_sum, ← join_flat, c, enc_len]
  exact c_join F hl h1 (by rw [l, len_empty]; omega) fun t s' F => h _ t s' c F
end
set_option maxHeartbeats 4000000 in
theorem law_spec {w : World} {s : Shared} {k : Heap} {A : Around} {a0 : Addr} {vs0 : List Value} {ns : List Int} (C : Cx w k s) (a : Ar A 6) (hl0 : k.IsList a0 vs0.toArray) (hI0 : IntsAre vs0 ns) (hz : vs0.length ≤ 100) :
    wpAny (model Pr w) A (call (.ref 178) [.ref a0]) (Ret Kp s k (fun k' v => v = .bool true)) (fun _ _ => False) s := by
  have dB := draws_bnd ns
  have dL := draws_len ns
  have dS := sum_bnd _ dB
  have hqw : ∀ q ∈ piecesOf ns, wid q ≤ 9 := by
    intro q hq
    obtain ⟨v, _, rfl⟩ := List.mem_map.mp hq
    exact piece_wid v
  have hql : (piecesOf ns).length = (drawsOf ns).length + 2 := by simp [piecesOf]
  have hqf := wid_flat _ hqw
  have hmx : 2 ≤ mx (piecesOf ns).flatten := by
    have : 1 < mx (piecesOf ns).flatten := lt_mx.mpr ⟨2, List.mem_flatten.mpr ⟨pieceR 14, by simp [piecesOf], by decide⟩, by decide⟩
    omega
  generalize hdr : drawsOf ns = dr at *
  generalize hqs : piecesOf ns = qs at *
  have hqs' : qs = (5 :: 14 :: dr).map pieceR := by rw [← hqs, ← hdr]; rfl
  refine enter (fd := fdLaw) (binds := [("script", .ref a0)]) (relKp w) C a rfl rfl rfl (BindsTo.of_eq rfl) (by decide) (locs rfl) (fun A' L s₁ a' F => ?_)
  refine xs_comp (cl := []) rfl ?_
  repeat' walk_at "ev"
  rename Fm _ _ _ _ _ _ _ _ _ => F
  refine e_slice ?_
  refine p_none (p_some ?_)
  repeat' walk_at "ev"
  rename Fm _ _ _ _ _ _ _ _ _ => F
  refine p_none ?_
  refine o_slice F (IsList.mono hl0 F.led) (by omega) .none (.int _ _) .none (by simp) fun d1 s2 F => ?_
  rw [show (5 : Int) = ((5 : Nat) : Int) from rfl, slicePick_upto'] at F
  obtain ⟨k1, hs1, hk1, F⟩ := F.freeze
  refine comp_list (vs := vs0.take 5) F a'.hd ((isL_mk _ _).at hk1) (by rw [List.length_take]; omega) (fun v y => ∃ n t t', v = .int n t ∧ y = .int (n.fmod 40) t') ?_ ?_
  · rintro v C mc k3 mu3 s5 hv hs3 hmc F
    obtain ⟨n, t, rfl⟩ := ints_mem hI0 v (List.mem_of_mem_take hv)
    repeat' walk_at "ev"
    rename Fm _ _ _ _ _ _ _ _ _ => F
    exact elt_of F (Sub.refl _) ⟨n, t, _, rfl, rfl⟩
  intro D n' ys k2 C mc s5 hpa hs2
  have hI1 : IntsAre ys dr := by rw [← hdr]; exact ints_mod (ints_take 5 hI0) hpa
  have hyl := hI1.length
  refine behind_assign fun s6 F => ?_
  obtain ⟨k3, hs3, hk3, F⟩ := F.freeze
  have hlD : k3.IsList D ys.toArray := (isL_mk _ _).at hk3
  repeat' walk_at "ev"
  rename Fm _ _ _ _ _ _ _ _ _ => F
  refine c_sum F a'.hd (IsList.mono hlD F.led) hI1 fun t s' F => ?_
  generalize htot : dr.sum = tot at *
  have m3 : 0 ≤ tot.fmod 3 ∧ tot.fmod 3 < 3 := ⟨Int.fmod_nonneg_of_pos _ (by decide), Int.fmod_lt_of_pos _ (by decide)⟩
  have m5 : 0 ≤ (tot.fdiv 3).fmod 5 ∧ (tot.fdiv 3).fmod 5 < 5 := ⟨Int.fmod_nonneg_of_pos _ (by decide), Int.fmod_lt_of_pos _ (by decide)⟩
  repeat' walk_at "ev"
  rename Fm _ _ _ _ _ _ _ _ _ => F
  refine o_list F (by exact Nat.le_of_ble_eq_true rfl) fun dz s' F => ?_
  obtain ⟨k4, hs4, hk4, F⟩ := F.freeze
  have hz4 : SizesAt k4 (.ref dz) (4 + tot.fmod 3) := ⟨dz, _, _, _, _, rfl, (isL_mk _ _).at hk4⟩
  obtain ⟨z, hzz⟩ : ∃ z, z = 4 + tot.fmod 3 := ⟨_, rfl⟩
  rw [← hzz] at hz4
  repeat' walk_at "ev"
  rename Fm _ _ _ _ _ _ _ _ _ => F
  generalize hB : ((tot.fdiv 3).fmod 5).toNat = B at *
  have htl : (Txt.mul (Str.ofString " ") ((tot.fdiv 3).fmod 5)).cps.toList = List.replicate B 32 := by rw [mul_sp, hB]
  have hB4 : B ≤ 4 := by omega
  refine xs_comp (cl := []) rfl ?_
  repeat' walk_at "ev"
  rename Fm _ _ _ _ _ _ _ _ _ => F
  refine o_list F (by exact Nat.le_of_ble_eq_true rfl) fun d5 s' F => ?_
  repeat' walk_at "ev"
  rename Fm _ _ _ _ _ _ _ _ _ => F
  refine o_ladd F ((isL_mk _ _).at F.at0) (IsList.mono hlD (hs4.trans F.led)) (by rw [sizeLine_eq]; simp only [List.length_cons, List.length_nil]; omega) fun d6 s' F => ?_
  have F := F.drop1
  obtain ⟨k5, hs5, hk5, F⟩ := F.freeze
  have hI5 : ∀ t5 t14, IntsAre ([.int 5 t5, .int 14 t14] ++ ys) (5 :: 14 :: dr) := fun _ _ => .cons 5 _ (.cons 14 _ hI1)
  refine comp_list F a'.hd ((isL_mk _ _).at hk5) (by simp only [List.length_append, List.length_cons, List.length_nil]; omega) (fun v r => ∃ n t y t', v = .int n t ∧ r = .str y t' ∧ y.cps.toList = encR (pieceR n)) ?_ ?_
  · rintro v C mc k3 mu3 s5 hv hs3 hmc F
    obtain ⟨n, t, rfl⟩ := ints_mem (hI5 _ _) v hv
    repeat' walk_at "ev"
    rename Fm _ _ _ _ _ _ _ _ _ => F
    refine use_ret F (piece_spec (relKp w) F.cx (a'.le (by decide))) ?_
    rintro _ k8 s8 hs8 ⟨y, t8, rfl, hy⟩ F
    exact elt_of F hs8 ⟨n, t, y, t8, rfl, rfl, hy⟩
  intro D2 n2 vp k6 C mc s5 hpp hs6
  have hEp : EncAll vp (zz qs) := by rw [hqs']; exact enc_pieces (hI5 _ _) hpp
  have hvp : vp.length = qs.length := by rw [hEp.len, zz_len]
  refine behind_assign fun s6 F => ?_
  obtain ⟨k7, hs7, hk7, F⟩ := F.freeze
  have hlP : k7.IsList D2 vp.toArray := (isL_mk _ _).at hk7
  have hEt : ∀ t, EncAll [.str (Txt.mul (Str.ofString " ") ((tot.fdiv 3).fmod 5)) t] [([], B)] := fun _ => ⟨⟨_, _, rfl, by rw [htl]; rfl⟩, trivial⟩
  repeat' walk_at "ev"
  rename Fm _ _ _ _ _ _ _ _ _ => F
  refine o_list F (by exact Nat.le_of_ble_eq_true rfl) fun d8 s' F => ?_
  refine o_ladd F (IsList.mono hlP F.led) ((isL_mk _ _).at F.at0) (by rw [sizeLine_eq]; simp only [List.length_cons, List.length_nil]; omega) fun d9 s' F => ?_
  have F := F.drop1
  obtain ⟨k8, hs8, hk8, F⟩ := F.freeze
  have hT : TextsAt k8 (.ref d9) (tz qs B) := ⟨d9, _, rfl, (isL_mk _ _).at hk8, hEp.append (hEt _)⟩
  repeat' walk_at "ev"
  rename Fm _ _ _ _ _ _ _ _ _ => F
  refine e_slice ?_
  refine p_none (p_none (p_some (UnaryOp_ ?_)))
  repeat' walk_at "ev"
  rename Fm _ _ _ _ _ _ _ _ _ => F
  refine o_neg F fun t5 s3 F => ?_
  refine o_slice F (IsList.mono hlP (hs8.trans F.led)) (by omega) .none .none (.int _ _) (by decide) fun d10 s2 F => ?_
  rw [krv_pick] at F
  repeat' walk_at "ev"
  rename Fm _ _ _ _ _ _ _ _ _ => F
  refine o_list F (by exact Nat.le_of_ble_eq_true rfl) fun d11 s' F => ?_
  refine o_ladd (vs := vp.reverse) F ((isL_mk _ _).at F.at1) ((isL_mk _ _).at F.at0) (by rw [sizeLine_eq, List.length_reverse]; simp only [List.length_cons, List.length_nil]; omega) fun d12 s' F => ?_
  have F := F.drop1.drop1
  obtain ⟨k9, hs9, hk9, F⟩ := F.freeze
  have hEr : ∀ t, EncAll (vp.reverse ++ [.str (Txt.mul (Str.ofString " ") ((tot.fdiv 3).fmod 5)) t]) (tz qs.reverse B) := by
    intro t
    refine EncAll.append ?_ (hEt t)
    have := hEp.reverse
    unfold zz at this ⊢
    rw [← List.map_reverse] at this
    exact this
  have hU : TextsAt k9 (.ref d12) (tz qs.reverse B) := ⟨d12, _, rfl, (isL_mk _ _).at hk9, hEr _⟩
  have hT := hT.mono hs9
  have hwq : wid qs.flatten + B ≤ 100 := by omega
  have hwr : wid qs.reverse.flatten = wid qs.flatten := wid_perm (flat_rev qs)
  have smT : Small (tz qs B) := small_tz hqw (by omega) hB4
  have smU : Small (tz qs.reverse B) := small_tz (fun q hq => hqw q (by simpa using hq)) (by rw [List.length_reverse]; omega) hB4
  have pT : PreOk (tz qs B) := pre_tz (by omega)
  have pU : PreOk (tz qs.reverse B) := pre_tz (by omega)
  have hz9 : SizesAt k9 (.ref dz) z := hz4.mono (hs5.trans (hs6.trans (hs7.trans (hs8.trans hs9))))
  repeat' walk_at "ev"
  rename Fm _ _ _ _ _ _ _ _ _ => F
  refine t_or ?_
  repeat' walk_at "ev"
  rename Fm _ _ _ _ _ _ _ _ _ => F
  refine isTrue_plain ?_
  repeat' walk_at "ev"
  rename Fm _ _ _ _ _ _ _ _ _ => F
  refine use_ret F (hold_spec F.cx a' hT smT pT hz9 (by omega) (by omega)) ?_
  rintro _ k10 s10 hs10 rfl F
  repeat' walk_at "ev"
  rename Fm _ _ _ _ _ _ _ _ _ => F
  refine orv_false (t_or ?_)
  repeat' walk_at "ev"
  rename Fm _ _ _ _ _ _ _ _ _ => F
  refine isTrue_plain ?_
  repeat' walk_at "ev"
  rename Fm _ _ _ _ _ _ _ _ _ => F
  refine use_ret F (hold_spec F.cx a' (hU.mono hs10) smU pU (hz9.mono hs10) (by omega) (by omega)) ?_
  rintro _ k11 s11 hs11 rfl F
  repeat' walk_at "ev"
  rename Fm _ _ _ _ _ _ _ _ _ => F
  refine orv_false (t_or_nil ?_)
  refine ⟨fun q => Bool.noConfusion q, fun _ => ?_⟩
  have hT11 := hT.mono (hs10.trans hs11)
  have hU11 := hU.mono (hs10.trans hs11)
  repeat' walk_at "ev"
  rename Fm _ _ _ _ _ _ _ _ _ => F
  refine use_ret F (sums_spec F.cx (a'.le (by decide)) hT11 smT (hz9.mono (hs10.trans hs11)) (by omega) (by omega)) ?_
  rintro _ k12 s12 hs12 ⟨lS, vS, rfl, hlS, hSl, hS⟩ F
  repeat' walk_at "ev"
  rename Fm _ _ _ _ _ _ _ _ _ => F
  refine UnaryOp_ ?_
  repeat' walk_at "ev"
  rename Fm _ _ _ _ _ _ _ _ _ => F
  refine o_neg F fun t5 s3 F => ?_
  have htl1 := tz_len qs B
  obtain ⟨u, hu, hent⟩ := hS (tz qs B).length (Nat.le_refl _)
  rw [List.take_length] at hent
  refine o_lastL (IsList.mono hlS F.led) (by omega) (by rw [hSl]; exact hu) ?_
  obtain ⟨ae, de, q1, q2, q3, q4, rfl, hte, htab⟩ := hent
  repeat' walk_at "ev"
  rename Fm _ _ _ _ _ _ _ _ _ => F
  refine o_getT (IsTup.mono hte F.led) (by decide) (by decide) rfl ?_
  repeat' walk_at "ev"
  rename Fm _ _ _ _ _ _ _ _ _ => F
  have htl2 : (tabS (tz qs B)).length ≤ 160 := by
    have := tabS_len smT (tz qs B).length
    rwa [List.take_length] at this
  refine use_ret F (counts_spec (relKp w) F.cx (a'.le (by decide)) htab (by omega)) ?_
  rintro _ k13 s13 hs13 ⟨dc, rfl, htc⟩ F
  have hT13 := hT11.mono (hs12.trans hs13)
  have hU13 := hU11.mono (hs12.trans hs13)
  obtain ⟨lT, vT, eT, hlT, hET⟩ := id hT13
  cases eT
  obtain ⟨lU, vU, eU, hlU, hEU⟩ := id hU13
  cases eU
  repeat' walk_at "ev"
  rename Fm _ _ _ _ _ _ _ _ _ => F
  refine isTrue_plain ?_
  repeat' walk_at "ev"
  rename Fm _ _ _ _ _ _ _ _ _ => F
  refine GM.join ?_
  repeat' walk_at "ev"
  rename Fm _ _ _ _ _ _ _ _ _ => F
  refine c_joinE F (IsList.mono hlT F.led) hET (encT_tz qs B) (by omega) fun yT t6 s6 cT F => ?_
  repeat' walk_at "ev"
  rename Fm _ _ _ _ _ _ _ _ _ => F
  refine GM.join ?_
  repeat' walk_at "ev"
  rename Fm _ _ _ _ _ _ _ _ _ => F
  refine c_joinE F (IsList.mono hlU F.led) hEU (encT_tz qs.reverse B) (by omega) fun yU t7 s7 cU F => ?_
  repeat' walk_at "ev"
  rename Fm _ _ _ _ _ _ _ _ _ => F
  refine o_getT (IsTup.mono hte (hs13.trans F.led)) (by decide) (by decide) rfl ?_
  repeat' walk_at "ev"
  rename Fm _ _ _ _ _ _ _ _ _ => F
  have hcnt : CntOf (tabS (tz qs B)) qs.flatten := by
    have := tabS_cnt (tz qs B)
    rwa [tz_fst] at this
  refine use_ret F (back_spec (relKp w) F.cx a' cT cU (flat_rev qs) htl (by omega) htc hcnt (levS_tz qs B 1) (by omega)) ?_
  rintro _ k14 s14 hs14 rfl F
  repeat' walk_at "ev"
  rename Fm _ _ _ _ _ _ _ _ _ => F
  refine ⟨fun q => Bool.noConfusion q, fun _ => ?_⟩
  have hlP14 : k14.IsList D2 vp.toArray := IsList.mono hlP (hs8.trans (hs9.trans (hs10.trans (hs11.trans (hs12.trans (hs13.trans hs14))))))
  repeat' walk_at "ev"
  rename Fm _ _ _ _ _ _ _ _ _ => F
  refine c_len F (IsList.mono hlP14 F.led) (by omega) fun t8 s8 F => ?_
  have mo : 0 ≤ tot.fmod (vp.length : Int) ∧ tot.fmod (vp.length : Int) < (vp.length : Int) := ⟨Int.fmod_nonneg_of_pos _ (by omega), Int.fmod_lt_of_pos _ (by omega)⟩
  refine o_mod F (by omega) fun t9 s9 F => ?_
  generalize hout : tot.fmod (vp.length : Int) = out at *
  obtain ⟨o, rfl⟩ : ∃ o : Nat, out = (o : Int) := ⟨out.toNat, by omega⟩
  have hoq : o < qs.length := by omega
  repeat' walk_at "ev"
  rename Fm _ _ _ _ _ _ _ _ _ => F
  refine GM.join ?_
  repeat' walk_at "ev"
  rename Fm _ _ _ _ _ _ _ _ _ => F
  refine c_joinE F (IsList.mono hlT (hs14.trans F.led)) hET (encT_tz qs B) (by omega) fun yT t6 s6 cT F => ?_
  repeat' walk_at "ev"
  rename Fm _ _ _ _ _ _ _ _ _ => F
  refine GM.join ?_
  repeat' walk_at "ev"
  rename Fm _ _ _ _ _ _ _ _ _ => F
  refine e_slice ?_
  refine p_none (p_some ?_)
  repeat' walk_at "ev"
  rename Fm _ _ _ _ _ _ _ _ _ => F
  refine p_none ?_
  refine o_slice F (IsList.mono hlP14 F.led) (by omega) .none (.int _ _) .none (by simp) fun d20 s20 F => ?_
  rw [slicePick_upto'] at F
  repeat' walk_at "ev"
  rename Fm _ _ _ _ _ _ _ _ _ => F
  refine e_slice ?_
  refine p_some ?_
  repeat' walk_at "ev"
  rename Fm _ _ _ _ _ _ _ _ _ => F
  refine p_none (p_none ?_)
  refine o_slice F (IsList.mono hlP14 F.led) (by omega) (.int _ _) .none .none (by simp) fun d21 s21 F => ?_
  rw [show (o : Int) + 1 = ((o + 1 : Nat) : Int) from rfl, slicePick_from'] at F
  refine o_ladd (vs := vp.take o) (ws := vp.drop (o + 1)) F ((isL_mk _ _).at F.at1) ((isL_mk _ _).at F.at0) (by rw [sizeLine_eq, List.length_take, List.length_drop]; omega) fun d22 s' F => ?_
  have F := F.drop1.drop1
  repeat' walk_at "ev"
  rename Fm _ _ _ _ _ _ _ _ _ => F
  refine o_list F (by exact Nat.le_of_ble_eq_true rfl) fun d23 s' F => ?_
  refine o_ladd (vs := vp.take o ++ vp.drop (o + 1)) F ((isL_mk _ _).at F.at1) ((isL_mk _ _).at F.at0) (by rw [sizeLine_eq, List.length_append, List.length_take, List.length_drop]; simp only [List.length_cons, List.length_nil]; omega) fun d24 s' F => ?_
  have F := F.drop1.drop1
  have hEo : ∀ t, EncAll (vp.take o ++ vp.drop (o + 1) ++ [.str (Txt.mul (Str.ofString " ") ((tot.fdiv 3).fmod 5)) t]) (tz (qs.take o ++ qs.drop (o + 1)) B) := by
    intro t
    refine EncAll.append ?_ (hEt t)
    have h1 := hEp.take o
    have h2 := hEp.drop (o + 1)
    have := h1.append h2
    unfold zz at this ⊢
    rw [← List.map_take, ← List.map_drop, ← List.map_append] at this
    exact this
  have hpo := flat_out hoq
  have hwo : wid qs.flatten = wid qs[o] + wid (qs.take o ++ qs.drop (o + 1)).flatten := by rw [wid_perm hpo, wid_append]
  repeat' walk_at "ev"
  rename Fm _ _ _ _ _ _ _ _ _ => F
  refine c_joinE F ((isL_mk _ _).at F.at0) (hEo _) (encT_tz _ B) (by omega) fun yO t7 s7 cO F => ?_
  have F := F.drop
  obtain ⟨yp, tp, hvp2, hyp⟩ := EncAll.nth (i := o) (p := (qs[o], 0)) hEp (by simp [zz, hoq])
  repeat' walk_at "ev"
  rename Fm _ _ _ _ _ _ _ _ _ => F
  refine o_getL (IsList.mono hlP14 F.led) (by omega) (by omega) (by rw [Int.toNat_natCast]; exact hvp2) ?_
  repeat' walk_at "ev"
  rename Fm _ _ _ _ _ _ _ _ _ => F
  have hall : ∀ q ∈ qs, q ≠ [] := by
    rw [hqs']
    intro q hq
    obtain ⟨v, _, e⟩ := List.mem_map.mp hq
    rw [← e]; exact piece_ne v
  have hne : qs[o] ≠ [] := hall _ (List.getElem_mem hoq)
  refine use_ret F (one_spec (relKp w) F.cx a' cT cO hyp hpo hne hmx (by omega)) ?_
  rintro _ k15 s15 hs15 rfl F
  repeat' walk_at "ev"
  rename Fm _ _ _ _ _ _ _ _ _ => F
  exact Ret.of F rfl
theorem gl_law (w : World) : nsIn (KK w) mainGlobals (Str.ofString "law") = some (some (.ref 178)) := by rfl
theorem rec_addc : ∃ d ∈ recsOf vw, d.name = Str.ofString "add_callers" := by
  have h : (recsOf vw).any (fun d => d.name == Str.ofString "add_callers") = true := by decide +kernel
  obtain ⟨d, hd, e⟩ := List.any_eq_true.mp h
  exact ⟨d, hd, by simpa using e⟩
theorem lk_35 (w : World) : ∃ oc od osl, (KK w).lookup 35 = some ⟨oc, od, .func fdAddC, osl⟩ := ⟨_, _, _, rfl⟩
theorem code_35 : fdAddC.code = .ref 34 := rfl
theorem lk_34 (w : World) : ∃ o vs, (KK w).lookup 34 = some o ∧ o.data = .fields vs ∧ vs[11]? = some (.ref Pt) := by
  refine ⟨_, _, rfl, rfl, rfl⟩
theorem tab_of {w : World} {mg mb : Str → Option Value} {h : Heap} {mean : ExcName → Option Value} (X : (KK w).In h) (T : Top vw Loo mean mg mb h) : h.IsCode 34 Pt #[] ∧ h.TableAt 34 Pt #[] := by
  obtain ⟨d, hd, e⟩ := rec_addc
  obtain ⟨a, o, fd, c, P, h1, h2, h3, h4, h5, h6⟩ := T.tab d hd
  rw [e, mg_of X T.g (gl_addc w)] at h1
  cases h1
  obtain ⟨oc, od, osl, l⟩ := lk_35 w
  rw [X _ _ l] at h2
  cases h2
  cases h3
  rw [code_35] at h4
  cases h4
  obtain ⟨o', vs, l', q1, q2⟩ := lk_34 w
  obtain ⟨⟨o2, vs2, e1, e2, e3, e4⟩, _⟩ := id h6
  rw [X _ _ l'] at e1
  cases e1
  rw [q1] at e3
  cases e3
  rw [q2] at e4
  cases e4
  exact ⟨h5, h6⟩
theorem ar_caller : Ar callerA 6 := ⟨rfl, by decide, by decide⟩
theorem good_of {s₁ s' : Shared} {w : World} {cl : Str → Option Addr} {mean : ExcName → Option Value} {args : List WData} {v : Value} {k : Heap} (r : Ret Kp s₁ k (fun k' v => v = .bool true) v s') (htab : s₁.heap.IsCode 34 Pt #[] ∧ s₁.heap.TableAt 34 Pt #[]) (hb : AllBare s₁.gens) :
    GoodWG PySem.Challenge.rw_mj0169_01.row.claim cl mean args s₁ (Except.ok (Flow.ret v)) s' := by
  obtain ⟨K, k', _, _, _, _, rfl⟩ := r
  obtain ⟨more, _, t2⟩ := K.tab _ htab.1 htab.2
  refine ⟨.inl ⟨.bool true, .bool true, [], rfl, fun _ => rfl, .bool true, postW_of (r := PySem.Challenge.rw_mj0169_01.row.toRowW) rfl (w_eq_bool (w_res rfl) w_lit) rfl, fun _ => ⟨List.nodup_nil, fun a h => (nomatch h)⟩⟩, ?_, K.os, K.bare hb⟩
  exact (OldK.refl s₁.heap).step_table htab.2 htab.2 t2 (fun b o hb e => K.keep b o hb e) (by decide)
theorem fin : PySem.Challenge.rw_mj0169_01.Holds := hd (by
  intro w s₀ s₁ mg mb G Y fa o pm cd doc dV kV ho hd hcd hD hmg hg args vals as hpre hlay hrd hwl hlo
  have KX := kIn_of Y
  refine Ground.open G ?_
  intro T B D TE TW
  obtain ⟨bm, ob, M⟩ := bmod_of_top T
  clear hd hcd hD
  wrow_args hpre hlay hrd hwl hlo
  rename IntsAre _ _ => hI
  rename Heap.IsList _ _ _ => hL
  rename ¬ _ < _ => hlen
  have hfa : fa = 178 := by
    have h1 := mg_of KX T.g (gl_law w)
    have h2 : mg (Str.ofString "law") = some (.ref fa) := hmg
    rw [h1] at h2
    injection h2 with h2; injection h2 with h2; exact h2.symm
  subst hfa
  have htab := tab_of KX T
  have hb : AllBare s₁.gens := AllBare.of_eq hg
  have gd : Gd w s₁ := ⟨KX, ⟨mg, mb, topRead_of T⟩, ⟨_, htab⟩, ⟨mg, bm, ob, M⟩, hb⟩
  have cx : Cx w (s₁.heap.hide Pt) s₁ := ⟨gd, fun b o e => Heap.of_hide e, Heap.hide_self _ _⟩
  refine wpAny_mono (law_spec cx ar_caller ?_ hI ?_) (fun v s' r => good_of (w := w) r htab hb) fun _ _ x => x.elim
  · obtain ⟨ol, e1, e2, n, e3⟩ := hL
    refine ⟨ol, (Heap.hide_ne _ ?_).trans e1, e2, n, e3⟩
    rintro rfl
    rw [htab.2.2] at e1
    cases e1; cases e2
  · have := hI.length
    omega)
end Mine
theorem PySem.Challenge.cw_mj0169_01_holds : PySem.Challenge.rw_mj0169_01.Holds :=
  Mine.fin
