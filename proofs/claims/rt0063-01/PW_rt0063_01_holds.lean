import PyProof.Rows.All
import Wide.All
import OpenK.AllK
import Wide.FinOn
import PySem.Challenge.RW_rt0063_01
set_option Elab.async false
set_option linter.all false
set_option maxRecDepth 100000
set_option maxHeartbeats 8000000
set_option genSizeOf false

noncomputable section
open PySem PySem.W PyProof.Rows
namespace Mine
noncomputable abbrev RR : OpenRow := PySem.Challenge.rw_rt0063_01.row
noncomputable abbrev PG : Program := PySem.Challenge.rw_rt0063_01.row.prog
noncomputable def defName (i : Nat) : Str := match PG.main.body[i]? with | some (.FunctionDef n _ _ _ _ _ _ _ _ _) => n | _ => ""
noncomputable def defBody (i : Nat) : List Stmt := match PG.main.body[i]? with | some (.FunctionDef _ _ body _ _ _ _ _ _ _) => body | _ => []
noncomputable def defScope (i : Nat) : Scope := match PG.main.body[i]? with | some (.FunctionDef _ _ _ _ _ _ sc _ _ _) => sc | _ => default
noncomputable def defArgs (i : Nat) : Arguments := match PG.main.body[i]? with | some (.FunctionDef _ a _ _ _ _ _ _ _ _) => a | _ => default
/-- a def's object -/
noncomputable def fnO (i : Nat) (pm : Value) (c : Addr) : Obj := { cls := .type "function", data := .func { name := defName i, qualname := defName i, params := defArgs i, body := .stmts (defBody i), scope := defScope i, globals := 3, closure := [], defaults := .none, kwdefaults := .none, pyModule := pm, code := .ref c } }
noncomputable def ent (P : Params) (n : Str) (t : Tok) (v : Value) : DictEntry := { hash := PyData.keyHash P n, key := .str n t, val := v }
/-- what is kept of the heap behind the start -/
noncomputable def KH (P : Params) : Frag := [
  (3, { cls := .type "dict", data := .dict #[ent P "__name__" 165 (.str "law_rt0063_01" 388),
    ent P "__doc__" 166 (.none),
    ent P "__package__" 167 (.none),
    ent P "__loader__" 168 (.builtin "__main__.__loader__#opaque"),
    ent P "__spec__" 169 (.none),
    ent P "__annotations__" 170 (.ref 6),
    ent P "__builtins__" 171 (.ref 4),
    ent P "__file__" 173 (.str "/claim/cut.py" 172),
    ent P "__cached__" 174 (.none),
    ent P "_wall" 193 (.ref 21),
    ent P "_plain_name" 204 (.ref 28),
    ent P "ABCMeta" 230 (.ref 45),
    ent P "_ABCLike" 273 (.ref 78),
    ent P "_abc_plain_meta" 280 (.ref 87),
    ent P "fspath" 292 (.ref 94),
    ent P "_check_arg_types" 305 (.ref 101),
    ent P "_get_sep" 314 (.ref 108),
    ent P "join" 325 (.ref 115),
    ent P "dirname" 335 (.ref 122),
    ent P "commonpath" 341 (.ref 127),
    ent P "sorted_list_difference" 357 (.ref 134),
    ent P "_raise_serialization_error" 366 (.ref 141),
    ent P "_escape_attrib" 373 (.ref 148),
    ent P "_escape_attrib_html" 380 (.ref 155),
    ent P "_escape_attrib_c14n" 387 (.ref 162),
    ent P "_law_drawn" 407 (.ref 169),
    ent P "_law_told" 413 (.ref 174),
    ent P "_law_written" 421 (.ref 181),
    ent P "_law_texts" 427 (.ref 186),
    ent P "_law_spans" 442 (.ref 193),
    ent P "_law_found" 448 (.ref 198),
    ent P "law" 454 (.ref 203)] 32 }),
  (93, { cls := .type "code", data := .fields #[.str "fspath" 283, .str "fspath" 284, .str "/claim/cut.py" 285, .int 35 0, .int 1 0, .int 0 0, .int 0 0, .int 3 0, .ref 88, .bool true, .int 181 0, .ref 89, .none, .ref 90, .ref 91, .ref 92, .int 290 0, .int 35 0, .str "/claim/cut.py" 291] }),
  (94, fnO 9 (.str "os" 281) 93),
  (107, { cls := .type "code", data := .fields #[.str "_get_sep" 308, .str "_get_sep" 309, .str "/claim/cut.py" 310, .int 64 0, .int 1 0, .int 0 0, .int 0 0, .int 3 0, .ref 102, .bool true, .int 181 0, .ref 103, .none, .ref 104, .ref 105, .ref 106, .int 312 0, .int 64 0, .str "/claim/cut.py" 313] }),
  (108, fnO 13 (.str "cpy313.posixpath" 306) 107),
  (114, { cls := .type "code", data := .fields #[.str "join" 315, .str "join" 316, .str "/claim/cut.py" 317, .int 69 0, .int 1 0, .int 0 0, .int 0 0, .int 7 0, .ref 109, .bool true, .int 181 0, .ref 110, .none, .ref 111, .ref 112, .ref 113, .int 323 0, .int 69 0, .str "/claim/cut.py" 324] }),
  (115, fnO 14 (.str "cpy313.posixpath" 306) 114),
  (121, { cls := .type "code", data := .fields #[.str "dirname" 326, .str "dirname" 327, .str "/claim/cut.py" 328, .int 86 0, .int 1 0, .int 0 0, .int 0 0, .int 3 0, .ref 116, .bool true, .int 181 0, .ref 117, .none, .ref 118, .ref 119, .ref 120, .int 333 0, .int 86 0, .str "/claim/cut.py" 334] }),
  (122, fnO 15 (.str "cpy313.posixpath" 306) 121),
  (126, { cls := .type "code", data := .fields #[.str "commonpath" 336, .str "commonpath" 337, .str "/claim/cut.py" 338, .int 94 0, .int 1 0, .int 0 0, .int 0 0, .int 3 0, .ref 123, .bool true, .int 181 0, .ref 124, .none, .none, .none, .ref 125, .int 339 0, .int 94 0, .str "/claim/cut.py" 340] }),
  (127, fnO 16 (.str "cpy313.posixpath" 306) 126),
  (133, { cls := .type "code", data := .fields #[.str "sorted_list_difference" 344, .str "sorted_list_difference" 345, .str "/claim/cut.py" 346, .int 124 0, .int 2 0, .int 0 0, .int 0 0, .int 3 0, .ref 128, .bool true, .int 181 0, .ref 129, .none, .ref 130, .ref 131, .ref 132, .int 355 0, .int 124 0, .str "/claim/cut.py" 356] }),
  (134, fnO 18 (.str "cpy313.unittest.util" 342) 133),
  (147, { cls := .type "code", data := .fields #[.str "_escape_attrib" 367, .str "_escape_attrib" 368, .str "/claim/cut.py" 369, .int 159 0, .int 1 0, .int 0 0, .int 0 0, .int 3 0, .ref 142, .bool true, .int 181 0, .ref 143, .none, .ref 144, .ref 145, .ref 146, .int 371 0, .int 159 0, .str "/claim/cut.py" 372] }),
  (148, fnO 21 (.str "cpy313.xml.etree.ElementTree" 358) 147),
  (154, { cls := .type "code", data := .fields #[.str "_escape_attrib_html" 374, .str "_escape_attrib_html" 375, .str "/claim/cut.py" 376, .int 178 0, .int 1 0, .int 0 0, .int 0 0, .int 3 0, .ref 149, .bool true, .int 181 0, .ref 150, .none, .ref 151, .ref 152, .ref 153, .int 378 0, .int 178 0, .str "/claim/cut.py" 379] }),
  (155, fnO 22 (.str "cpy313.xml.etree.ElementTree" 358) 154),
  (161, { cls := .type "code", data := .fields #[.str "_escape_attrib_c14n" 381, .str "_escape_attrib_c14n" 382, .str "/claim/cut.py" 383, .int 189 0, .int 1 0, .int 0 0, .int 0 0, .int 3 0, .ref 156, .bool true, .int 181 0, .ref 157, .none, .ref 158, .ref 159, .ref 160, .int 385 0, .int 189 0, .str "/claim/cut.py" 386] }),
  (162, fnO 23 (.str "cpy313.xml.etree.ElementTree" 358) 161),
  (168, { cls := .type "code", data := .fields #[.str "_law_drawn" 390, .str "_law_drawn" 391, .str "/claim/cut.py" 392, .int 207 0, .int 1 0, .int 0 0, .int 0 0, .int 3 0, .ref 163, .bool true, .int 181 0, .ref 164, .none, .ref 165, .ref 166, .ref 167, .int 405 0, .int 207 0, .str "/claim/cut.py" 406] }),
  (169, fnO 25 (.str "law_rt0063_01" 388) 168),
  (173, { cls := .type "code", data := .fields #[.str "_law_told" 408, .str "_law_told" 409, .str "/claim/cut.py" 410, .int 228 0, .int 2 0, .int 0 0, .int 0 0, .int 3 0, .ref 170, .bool true, .int 181 0, .ref 171, .none, .none, .none, .ref 172, .int 411 0, .int 228 0, .str "/claim/cut.py" 412] }),
  (174, fnO 26 (.str "law_rt0063_01" 388) 173),
  (180, { cls := .type "code", data := .fields #[.str "_law_written" 414, .str "_law_written" 415, .str "/claim/cut.py" 416, .int 231 0, .int 2 0, .int 0 0, .int 0 0, .int 3 0, .ref 175, .bool true, .int 181 0, .ref 176, .none, .ref 177, .ref 178, .ref 179, .int 419 0, .int 231 0, .str "/claim/cut.py" 420] }),
  (181, fnO 27 (.str "law_rt0063_01" 388) 180),
  (185, { cls := .type "code", data := .fields #[.str "_law_texts" 422, .str "_law_texts" 423, .str "/claim/cut.py" 424, .int 237 0, .int 3 0, .int 0 0, .int 0 0, .int 3 0, .ref 182, .bool true, .int 181 0, .ref 183, .none, .none, .none, .ref 184, .int 425 0, .int 237 0, .str "/claim/cut.py" 426] }),
  (186, fnO 28 (.str "law_rt0063_01" 388) 185),
  (192, { cls := .type "code", data := .fields #[.str "_law_spans" 428, .str "_law_spans" 429, .str "/claim/cut.py" 430, .int 251 0, .int 2 0, .int 0 0, .int 0 0, .int 3 0, .ref 187, .bool true, .int 181 0, .ref 188, .none, .ref 189, .ref 190, .ref 191, .int 440 0, .int 251 0, .str "/claim/cut.py" 441] }),
  (193, fnO 29 (.str "law_rt0063_01" 388) 192),
  (197, { cls := .type "code", data := .fields #[.str "_law_found" 443, .str "_law_found" 444, .str "/claim/cut.py" 445, .int 266 0, .int 2 0, .int 0 0, .int 0 0, .int 3 0, .ref 194, .bool true, .int 181 0, .ref 195, .none, .none, .none, .ref 196, .int 446 0, .int 266 0, .str "/claim/cut.py" 447] }),
  (198, fnO 30 (.str "law_rt0063_01" 388) 197),
  (202, { cls := .type "code", data := .fields #[.str "law" 449, .str "law" 450, .str "/claim/cut.py" 451, .int 291 0, .int 1 0, .int 0 0, .int 0 0, .int 3 0, .ref 199, .bool true, .int 181 0, .ref 200, .none, .none, .none, .ref 201, .int 452 0, .int 291 0, .str "/claim/cut.py" 453] }),
  (203, fnO 31 (.str "law_rt0063_01" 388) 202)]
noncomputable def asH : List Addr := [3, 93, 94, 107, 108, 114, 115, 121, 122, 126, 127, 133, 134, 147, 148, 154, 155, 161, 162, 168, 169, 173, 174, 180, 181, 185, 186, 192, 193, 197, 198, 202, 203]
theorem asH_eq (P : Params) : asH = (KH P).map (·.1) := by kernel_rfl
/-- the defs and constants -/
noncomputable def VW : Program := { PG with main := { PG.main with body := ([0, 2, 4, 6, 7, 9, 11, 13, 14, 15, 16, 18, 20, 21, 22, 23, 25, 26, 27, 28, 29, 30, 31] : List Nat).filterMap fun i => PG.main.body[i]? } }
noncomputable abbrev HK : Hook := kHook KH asH asH_eq
theorem left : LeftO RR.prog VW [] (fun s => xlAt VW [] s && recOk (RowW.records RR.toRowW) s) (Hook.obs HK) (Hook.val HK) 2598 := by
  intro w
  kernel_rfl
end Mine
end

noncomputable section
open PySem PySem.W PyProof.Rows
namespace Mine
noncomputable def defPos (i : Nat) : Pos := match PG.main.body[i]? with | some (.FunctionDef _ _ _ _ _ _ _ _ _ p) => p | _ => default
noncomputable def dH : DefRec := ⟨"law", defArgs 31, defBody 31, defScope 31, defPos 31⟩
theorem said_looks : looksOpen PG = true := by
  refine Eq.trans (b := and _ _) rfl ?_
  with_reducible repeat' refine look_both ?_ ?_
  all_goals decide +kernel
theorem said_part : OpenRow.partSaid RR = true := by
  refine Eq.trans (b := and _ _) rfl ?_
  with_reducible repeat' refine look_both ?_ ?_
  all_goals first | with_reducible exact said_looks | decide +kernel
theorem said_row : OpenRow.wellSaid RR = true := by
  refine Eq.trans (b := and _ _) rfl ?_
  with_reducible repeat' refine look_both ?_ ?_
  all_goals first | with_reducible exact said_part | decide +kernel
theorem said : OpenLaw.wellSaid PySem.Challenge.rw_rt0063_01 = true := by
  refine Eq.trans (b := and _ _) rfl ?_
  with_reducible repeat' refine look_both ?_ ?_
  all_goals first | with_reducible exact said_row | decide +kernel
theorem hd_def : defOf VW RR.name = some (dH, []) := by kernel_rfl
theorem hd_the : RR.prog.theDef RR.name = some (dH.params, dH.body, dH.scope) := by kernel_rfl
theorem hd_kw : kwWritten? dH.params.kwonlyargs dH.params.kw_defaults = some [] := by kernel_rfl
theorem hd_ok : (chainsOk VW && opensWell RR.prog && (frees RR.toRowW && RR.within.isEmpty)) = true := by kernel_rfl
theorem hd (walk : WalkO VW [] (XL VW []) (Hook.says HK) RR.toRowW dH [] fun f vs => PySem.call f vs) : PySem.Challenge.rw_rt0063_01.Holds := by
  refine holds_law said fun said => ?_
  refine holds_open (q := VW) (loose := []) (Xt := fun s => xlAt VW [] s && recOk (RowW.records RR.toRowW) s) (XP := XL VW []) (Yf := Hook.obs HK) (Ya := Hook.val HK) (YP := Hook.says HK) (d := dH) (kwd := []) (N := 2598) left (Hook.of HK) (Hook.keeps HK) (fun s e => xl_of s (Bool.and_eq_true_iff.mp e).1) XL.keeps hd_def hd_the hd_kw (fun s e => recFacts_of (Bool.and_eq_true_iff.mp e).2) (by rfl) said hd_ok ⟨rfl, rfl, rfl, rfl, rfl, by decide +kernel⟩ ?hw walk
  case hw => w_witness2
end Mine
end

noncomputable section
open PySem PySem.W PyProof.Rows
namespace Mine

noncomputable abbrev KK (w : World) : Frag := KH w.params
noncomputable abbrev MM (w : World) : Model := model PG w

theorem len1 {α : Type} {l : List α} (h : l.length = 1) : ∃ a, l = [a] := by
  obtain ⟨a, r, rfl⟩ := List.exists_cons_of_length_eq_add_one h
  cases r with
  | nil => exact ⟨a, rfl⟩
  | cons b r => exact absurd (Nat.succ.inj h) (Nat.succ_ne_zero _)
theorem len2 {α : Type} {l : List α} (h : l.length = 2) : ∃ a b, l = [a, b] := by
  obtain ⟨a, r, rfl⟩ := List.exists_cons_of_length_eq_add_one h
  obtain ⟨b, rfl⟩ := len1 (Nat.succ.inj h)
  exact ⟨a, b, rfl⟩
theorem len3 {α : Type} {l : List α} (h : l.length = 3) : ∃ a b c, l = [a, b, c] := by
  obtain ⟨a, r, rfl⟩ := List.exists_cons_of_length_eq_add_one h
  obtain ⟨b, c, rfl⟩ := len2 (Nat.succ.inj h)
  exact ⟨a, b, c, rfl⟩

theorem len12 {α : Type} {l : List α} (h : l ≠ []) (h2 : l.length ≤ 2) : (∃ a, l = [a]) ∨ ∃ a b, l = [a, b] := by
  cases l with
  | nil => exact (h rfl).elim
  | cons a r =>
    cases r with
    | nil => exact .inl ⟨a, rfl⟩
    | cons b r =>
      cases r with
      | nil => exact .inr ⟨a, b, rfl⟩
      | cons c r => exact absurd h2 (by simp)
theorem lt3 {k : Nat} (h : k < 3) : k = 0 ∨ k = 1 ∨ k = 2 := by omega
theorem le3 {f : Nat} (h : f ≤ 3) : f = 0 ∨ f = 1 ∨ f = 2 ∨ f = 3 := by omega
theorem mem3 {i : Nat} (h : i < 3) : i ∈ [0, 1, 2] := by rcases lt3 h with e | e | e <;> rw [e] <;> decide

/-- the part of a heap at the addresses that p lets through -/
noncomputable def only (h : Heap) (p : Addr → Bool) : Heap := ⟨h.objs.mapIdx fun i o => if p i then o else ⟨o.cls, o.dict, .freed, o.slots⟩, h.life⟩
theorem only_get (h : Heap) (p : Addr → Bool) (b : Addr) : (only h p).get? b = if p b then h.get? b else none := by
  cases hp : p b with
  | true =>
    have : (only h p).objs[b]? = h.objs[b]? := by
      unfold only
      simp only [Array.getElem?_mapIdx]
      cases h.objs[b]? <;> simp [hp]
    unfold Heap.get?
    rw [this]; rfl
  | false =>
    unfold only Heap.get?
    simp only [Array.getElem?_mapIdx]
    cases h.objs[b]? <;> simp [hp]
theorem none_of {α : Type} {x : Option α} (h : ∀ o, x = some o → False) : x = none := by
  cases x with
  | none => rfl
  | some o => exact (h o rfl).elim
theorem only_some {h : Heap} {p : Addr → Bool} {b : Addr} {o : Obj} : (only h p).get? b = some o ↔ p b = true ∧ h.get? b = some o := by
  rw [only_get]; split <;> simp_all

noncomputable def Le (h h' : Heap) : Prop := ∀ b o, h.get? b = some o → h'.get? b = some o
theorem Le.refl (h : Heap) : Le h h := fun _ _ e => e
theorem Le.trans {a b c : Heap} (x : Le a b) (y : Le b c) : Le a c := fun _ _ e => y _ _ (x _ _ e)
theorem only_le (h : Heap) (p : Addr → Bool) : Le (only h p) h := fun _ _ e => (only_some.mp e).2
theorem Le.push (h : Heap) (o : Obj) : Le h (h.push o) := fun _ _ e => Heap.get?_push_of_some _ e

/-- all stays; at the addresses of P (the frames') the data alone -/
noncomputable def Pres (P : List Addr) (h h' : Heap) : Prop := ∀ b o, h.get? b = some o → (b ∉ P → h'.get? b = some o) ∧ ∃ o', h'.get? b = some o' ∧ o'.data = o.data
theorem Pres.of_le {P : List Addr} {h h' : Heap} (l : Le h h') : Pres P h h' := fun b o e => ⟨fun _ => l b o e, o, l b o e, rfl⟩
theorem Pres.refl (P : List Addr) (h : Heap) : Pres P h h := .of_le (.refl h)
theorem Pres.trans {P : List Addr} {a b c : Heap} (x : Pres P a b) (y : Pres P b c) : Pres P a c := fun u o e => by
  obtain ⟨x1, o', x2, x3⟩ := x u o e
  obtain ⟨y1, o'', y2, y3⟩ := y u o' x2
  exact ⟨fun n => (y u o (x1 n)).1 n, o'', y2, y3.trans x3⟩
theorem Pres.trans' {P : List Addr} {a b c : Heap} (x : Pres P a b) (y : ∀ u o, a.get? u = some o → c.get? u = b.get? u) : Pres P a c := fun u o e => by
  obtain ⟨x1, o', x2, x3⟩ := x u o e
  exact ⟨fun n => (y u o e).trans (x1 n), o', (y u o e).trans x2, x3⟩
theorem Pres.ns {P : List Addr} {h h' : Heap} (x : Pres P h h') {a : Addr} {m : Str → Option Value} (n : h.Ns a m) : h'.Ns a m := by
  obtain ⟨o, es, ep, ho, hd, r⟩ := n
  obtain ⟨_, o', e', d'⟩ := x a o ho
  exact ⟨o', es, ep, e', d'.trans hd, r⟩
theorem Pres.cell {P : List Addr} {h h' : Heap} (x : Pres P h h') {a : Addr} {v : Option Value} (n : h.IsCell a v) : h'.IsCell a v := by
  obtain ⟨o, ho, hd⟩ := n
  obtain ⟨_, o', e', d'⟩ := x a o ho
  exact ⟨o', e', d'.trans hd⟩
structure Base (w : World) (P : List Addr) (h : Heap) : Prop where
  k : (KK w).In h
  kp : ∀ a o, (KK w).lookup a = some o → a ∉ P
  g : ∃ mg, h.Ns mainGlobals mg
  b : ∃ mb, h.Ns builtinsNs mb ∧ ∀ x : Str, x ≠ "__name__" → mb x = bootBuiltins x
  lim : h.NoLimit
theorem Base.mono {w : World} {P : List Addr} {h h' : Heap} (x : Base w P h) (l : Pres P h h') : Base w P h' where
  k := fun a o e => (l a o (x.k a o e)).1 (x.kp a o e)
  kp := x.kp
  g := let ⟨mg, n⟩ := x.g; ⟨mg, l.ns n⟩
  b := let ⟨mb, n, q⟩ := x.b; ⟨mb, l.ns n, q⟩
  lim := let ⟨mc, n, q⟩ := x.lim; ⟨mc, l.ns n, q⟩

inductive D where
  | none
  | bool (b : Bool)
  | int (i : Int)
  | str (s : Str)
  | list (l : List D)
  | tup (l : List D)
  | dict (ks : List Str) (ds : List D)
  | val (v : Value)

mutual
inductive Rep (w : World) (R : Heap) : D → Value → Prop
  | none : Rep w R .none .none
  | bool (b : Bool) : Rep w R (.bool b) (.bool b)
  | int (i : Int) (t : Tok) : Rep w R (.int i) (.int i t)
  | str (s : Str) (t : Tok) : Rep w R (.str s) (.str s t)
  | list {a : Addr} {vs : List Value} {ds : List D} : R.IsList a vs.toArray → RepL w R ds vs → Rep w R (.list ds) (.ref a)
  | tup {a : Addr} {vs : List Value} {ds : List D} : R.IsTuple a vs.toArray → RepL w R ds vs → Rep w R (.tup ds) (.ref a)
  | dict {a : Addr} {kvs : List (Str × Value)} {ep : Nat} {ks : List Str} {ds : List D} : (a == sysModules) = false → R.DictAt (PySem.strKind PG w) a kvs ep → kvs.map (·.1) = ks → RepL w R ds (kvs.map (·.2)) → Rep w R (.dict ks ds) (.ref a)
  | val (v : Value) : Rep w R (.val v) v
inductive RepL (w : World) (R : Heap) : List D → List Value → Prop
  | nil : RepL w R [] []
  | cons {d : D} {ds : List D} {v : Value} {vs : List Value} : Rep w R d v → RepL w R ds vs → RepL w R (d :: ds) (v :: vs)
end
theorem Rep.list_inv {w : World} {R : Heap} {ds : List D} {v : Value} (h : Rep w R (.list ds) v) : ∃ a vs, v = .ref a ∧ R.IsList a (List.toArray vs) ∧ RepL w R ds vs := by
  cases h with
  | list h r => exact ⟨_, _, rfl, h, r⟩
theorem Rep.tup_inv {w : World} {R : Heap} {ds : List D} {v : Value} (h : Rep w R (.tup ds) v) : ∃ a vs, v = .ref a ∧ R.IsTuple a (List.toArray vs) ∧ RepL w R ds vs := by
  cases h with
  | tup h r => exact ⟨_, _, rfl, h, r⟩
theorem Rep.str_inv {w : World} {R : Heap} {s : Str} {v : Value} (h : Rep w R (.str s) v) : ∃ t, v = .str s t := by
  cases h with
  | str _ t => exact ⟨t, rfl⟩
theorem Rep.int_inv {w : World} {R : Heap} {i : Int} {v : Value} (h : Rep w R (.int i) v) : ∃ t, v = .int i t := by
  cases h with
  | int _ t => exact ⟨t, rfl⟩
theorem RepL.nil_inv {w : World} {R : Heap} {vs : List Value} (h : RepL w R [] vs) : vs = [] := by
  cases h; rfl
theorem RepL.cons_inv {w : World} {R : Heap} {d : D} {ds : List D} {vs : List Value} (h : RepL w R (d :: ds) vs) : ∃ v us, vs = v :: us ∧ Rep w R d v ∧ RepL w R ds us := by
  cases h with
  | cons a b => exact ⟨_, _, rfl, a, b⟩

section
variable {w : World} {R R' : Heap}
theorem isList_mono (l : Le R R') {a : Addr} {vs : Array Value} (h : R.IsList a vs) : R'.IsList a vs := let ⟨o, ho, r⟩ := h; ⟨o, l _ _ ho, r⟩
theorem isTuple_mono (l : Le R R') {a : Addr} {vs : Array Value} (h : R.IsTuple a vs) : R'.IsTuple a vs := let ⟨o, ho, r⟩ := h; ⟨o, l _ _ ho, r⟩
theorem dictAt_mono (l : Le R R') {a : Addr} {kvs : List (Str × Value)} {ep : Nat} (h : R.DictAt (PySem.strKind PG w) a kvs ep) : R'.DictAt (PySem.strKind PG w) a kvs ep :=
  let ⟨o, es, ho, r⟩ := h; ⟨o, es, l _ _ ho, r⟩
theorem Rep.mono (l : Le R R') {d : D} {v : Value} (h : Rep w R d v) : Rep w R' d v :=
  Rep.rec (motive_1 := fun d v _ => Rep w R' d v) (motive_2 := fun ds vs _ => RepL w R' ds vs) .none .bool .int .str (fun h _ r => .list (isList_mono l h) r) (fun h _ r => .tup (isTuple_mono l h) r)
    (fun z h e _ r => .dict z (dictAt_mono l h) e r) .val .nil (fun _ _ h r => .cons h r) h
theorem RepL.mono (l : Le R R') {ds : List D} {vs : List Value} (h : RepL w R ds vs) : RepL w R' ds vs :=
  RepL.rec (motive_1 := fun d v _ => Rep w R' d v) (motive_2 := fun ds vs _ => RepL w R' ds vs) .none .bool .int .str (fun h _ r => .list (isList_mono l h) r) (fun h _ r => .tup (isTuple_mono l h) r)
    (fun z h e _ r => .dict z (dictAt_mono l h) e r) .val .nil (fun _ _ h r => .cons h r) h
theorem RepL.length {ds : List D} : ∀ {vs : List Value}, RepL w R ds vs → vs.length = ds.length := by
  induction ds with
  | nil => intro vs h; cases h.nil_inv; rfl
  | cons d ds ih => intro vs h; obtain ⟨v, us, rfl, a, r⟩ := h.cons_inv; exact congrArg Nat.succ (ih r)
theorem RepL.append {ds es : List D} {us : List Value} : ∀ {vs : List Value}, RepL w R ds vs → RepL w R es us → RepL w R (ds ++ es) (vs ++ us) := by
  induction ds with
  | nil => intro vs h q; cases h.nil_inv; exact q
  | cons d ds ih => intro vs h q; obtain ⟨v, us', rfl, a, r⟩ := h.cons_inv; exact .cons a (ih r q)
theorem RepL.get {ds : List D} : ∀ {vs : List Value}, RepL w R ds vs → ∀ {i : Nat} {d : D}, ds[i]? = some d → ∃ v, vs[i]? = some v ∧ Rep w R d v := by
  induction ds with
  | nil => intro vs h i d e; cases e
  | cons d ds ih =>
    intro vs h i d' e; obtain ⟨v, us, rfl, a, r⟩ := h.cons_inv
    cases i with
    | zero => cases e; exact ⟨v, rfl, a⟩
    | succ i => exact ih r e
theorem RepL.get' {ds : List D} : ∀ {vs : List Value}, RepL w R ds vs → ∀ {i : Nat} {v : Value}, vs[i]? = some v → ∃ d, ds[i]? = some d ∧ Rep w R d v := by
  induction ds with
  | nil => intro vs h i v e; cases h.nil_inv; cases e
  | cons d ds ih =>
    intro vs h i v' e; obtain ⟨v, us, rfl, a, r⟩ := h.cons_inv
    cases i with
    | zero => cases e; exact ⟨d, rfl, a⟩
    | succ i => exact ih r e
theorem RepL.take {ds : List D} : ∀ {vs : List Value}, RepL w R ds vs → ∀ n, RepL w R (ds.take n) (vs.take n) := by
  induction ds with
  | nil => intro vs h n; cases h.nil_inv; cases n <;> exact .nil
  | cons d ds ih =>
    intro vs h n; obtain ⟨v, us, rfl, a, r⟩ := h.cons_inv
    cases n with
    | zero => exact .nil
    | succ n => exact .cons a (ih r n)
theorem RepL.drop {ds : List D} : ∀ {vs : List Value}, RepL w R ds vs → ∀ n, RepL w R (ds.drop n) (vs.drop n) := by
  induction ds with
  | nil => intro vs h n; cases h.nil_inv; cases n <;> exact .nil
  | cons d ds ih =>
    intro vs h n; obtain ⟨v, us, rfl, a, r⟩ := h.cons_inv
    cases n with
    | zero => exact .cons a r
    | succ n => exact ih r n
theorem RepL.strs : ∀ {ss : List Str} {vs : List Value}, RepL w R (ss.map .str) vs → StrsAre vs ss
  | [], _, h => by cases h; exact .nil
  | s :: ss, _, h => by
    simp only [List.map_cons] at h
    replace h := h.cons_inv
    obtain ⟨_, _, rfl, h, r⟩ := h
    replace h := h.str_inv
    obtain ⟨t, rfl⟩ := h
    exact .cons s t (RepL.strs r)
theorem RepL.of_strs {ss : List Str} {vs : List Value} (h : StrsAre vs ss) : RepL w R (ss.map .str) vs := by
  induction h with
  | nil => exact .nil
  | cons y t r ih => exact .cons (.str y t) ih
end

inductive Slot where
  | fz (d : D)
  | own (d : D)

/-- the list or dict at hand is this frame's own -/
inductive Own (w : World) (h R : Heap) : D → Addr → Prop
  | list {a : Addr} {vs : List Value} {n : Nat} {ds : List D} : h.get? a = some (seqObj "list" vs.toArray n) → RepL w R ds vs → Own w h R (.list ds) a
  | dict {a : Addr} {kvs : List (Str × Value)} {ep : Nat} {ks : List Str} {ds : List D} : (a == sysModules) = false → h.DictAt (PySem.strKind PG w) a kvs ep → kvs.map (·.1) = ks → RepL w R ds (kvs.map (·.2)) → Own w h R (.dict ks ds) a

theorem Own.same {w : World} {h h' R R' : Heap} {d : D} {a : Addr} (x : Own w h R d a) (e : ∀ o, h.get? a = some o → h'.get? a = some o) (l : Le R R') : Own w h' R' d a := by
  cases x with
  | list q r => exact .list (e _ q) (r.mono l)
  | dict z q k r => obtain ⟨o, es, ho, q⟩ := q; exact .dict z ⟨o, es, e o ho, q⟩ k (r.mono l)
theorem Own.isSome {w : World} {h R : Heap} {d : D} {a : Addr} (x : Own w h R d a) : ∃ o, h.get? a = some o := by
  cases x with
  | list q r => exact ⟨_, q⟩
  | dict z q k r => obtain ⟨o, es, ho, q⟩ := q; exact ⟨o, ho⟩
theorem Own.rep {w : World} {h R R' : Heap} {d : D} {a : Addr} (x : Own w h R d a) (e : ∀ o, h.get? a = some o → R'.get? a = some o) (l : Le R R') : Rep w R' d (.ref a) := by
  cases x with
  | list q r => exact .list ⟨_, e _ q, rfl, _, rfl⟩ (r.mono l)
  | dict z q k r => obtain ⟨o, es, ho, q⟩ := q; exact .dict z ⟨o, es, e o ho, q⟩ k (r.mono l)

inductive SlotOk (w : World) (h R : Heap) : Slot → Value → Prop
  | fz {d : D} {v : Value} : Rep w R d v → SlotOk w h R (.fz d) v
  | own {d : D} {a : Addr} : Own w h R d a → SlotOk w h R (.own d) (.ref a)

/-- what a frame is made of, beside its scope -/
structure FrS where
  L : Addr
  cl : List (Str × Addr)
  q : Str
  fn : Option Addr
  cd : Value
  fr : Option Addr

noncomputable def mkEnv (sc : Scope) (F : FrS) : Env :=
  { scope := sc, locals := F.L, globals := mainGlobals, cells := F.cl, qual := F.q, func := F.fn, code := F.cd, frame := F.fr, builtins := builtinsNs }

noncomputable def frs (A : Around) : List Addr := (A.frames.getD []).filterMap (·.frame)
noncomputable def FrameOk (h : Heap) (e : Env) : Prop := e.scope.kind ≠ .module ∧ ∃ f o es ep, e.frame = some f ∧ h.get? f = some o ∧ o.data = .dict es ep
noncomputable def FR (A : Around) (h : Heap) : Prop := ∀ envs, A.frames = some envs → ∀ e ∈ envs, FrameOk h e
theorem FR.mono {A : Around} {P : List Addr} {h h' : Heap} (x : FR A h) (l : Pres P h h') : FR A h' := by
  intro envs e env he
  obtain ⟨k, f, o, es, ep, a, b, c⟩ := x envs e env he
  obtain ⟨_, o', e', d'⟩ := l f o b
  exact ⟨k, f, o', es, ep, a, e', d'.trans c⟩
theorem FR.isSome {A : Around} {h : Heap} (x : FR A h) {f : Addr} (hf : f ∈ frs A) : ∃ o, h.get? f = some o := by
  unfold frs at hf
  cases e : A.frames with
  | none => rw [e] at hf; cases hf
  | some envs =>
  rw [e] at hf
  obtain ⟨env, he, hq⟩ := List.mem_filterMap.mp hf
  obtain ⟨k, f', o, es, ep, a, b, c⟩ := x envs e env he
  rw [a] at hq; cases hq
  exact ⟨o, b⟩

/-- how a name of the frame stands -/
inductive At (sc : Scope) (F : FrS) (h : Heap) (m : Str → Option Value) : Str → Value → Prop
  | loc {x : Str} {v : Value} : sc.names.lookup x = some .local → m x = some v → At sc F h m x v
  | cel {x : Str} {v : Value} {c : Addr} : sc.names.lookup x = some .cell → F.cl.lookup x = some c → h.IsCell c (some v) → At sc F h m x v
  | fre {x : Str} {v : Value} {c : Addr} : sc.names.lookup x = some .free → F.cl.lookup x = some c → h.IsCell c (some v) → At sc F h m x v

theorem cell_inj {h : Heap} {c : Addr} {u v : Option Value} (a : h.IsCell c u) (b : h.IsCell c v) : u = v := by
  obtain ⟨o, ho, hd⟩ := a
  obtain ⟨o', ho', hd'⟩ := b
  rw [ho] at ho'; cases ho'
  rw [hd] at hd'; cases hd'; rfl
theorem At.inj {sc : Scope} {F : FrS} {h : Heap} {m : Str → Option Value} {x : Str} {u v : Value} (a : At sc F h m x u) (b : At sc F h m x v) : u = v := by
  rcases a with ⟨k, e⟩ | ⟨k, e, q⟩ | ⟨k, e, q⟩ <;> rcases b with ⟨k', e'⟩ | ⟨k', e', q'⟩ | ⟨k', e', q'⟩
  · rw [e] at e'; exact Option.some.inj e'
  · exact nomatch k.symm.trans k'
  · exact nomatch k.symm.trans k'
  · exact nomatch k.symm.trans k'
  · rw [e] at e'; cases e'; exact Option.some.inj (cell_inj q q')
  · exact nomatch k.symm.trans k'
  · exact nomatch k.symm.trans k'
  · exact nomatch k.symm.trans k'
  · rw [e] at e'; cases e'; exact Option.some.inj (cell_inj q q')

noncomputable abbrev St := List (Str × Slot)

/-- the address is free to be a frame's own -/
structure Off (A : Around) (F : FrS) (h₀ R : Heap) (a : Addr) : Prop where
  h : h₀.get? a = none
  r : R.get? a = none
  l : a ≠ F.L
  c : ∀ y c, F.cl.lookup y = some c → c ≠ a
  p : a ∉ frs A

structure Cells (F : FrS) (R h : Heap) (A : Around) : Prop where
  is : ∀ x c, F.cl.lookup x = some c → ∃ v, h.IsCell c v
  r : ∀ x c, F.cl.lookup x = some c → R.get? c = none
  l : ∀ x c, F.cl.lookup x = some c → c ≠ F.L
  p : ∀ x c, F.cl.lookup x = some c → c ∉ frs A
  inj : ∀ x y c, F.cl.lookup x = some c → F.cl.lookup y = some c → x = y

/-- what holds of the frame's names -/
structure Vars (w : World) (A : Around) (sc : Scope) (F : FrS) (h₀ : Heap) (σ : St) (R h : Heap) (m : Str → Option Value) : Prop where
  ns : h.Ns F.L m
  at_ : ∀ x sl, σ.lookup x = some sl → ∃ v, At sc F h m x v ∧ SlotOk w h R sl v
  off : ∀ x d a, σ.lookup x = some (.own d) → At sc F h m x (.ref a) → Off A F h₀ R a
  apart : ∀ x y d e a, σ.lookup x = some (.own d) → σ.lookup y = some (.own e) → At sc F h m x (.ref a) → At sc F h m y (.ref a) → x = y

structure Sat (w : World) (A : Around) (sc : Scope) (F : FrS) (h₀ : Heap) (σ : St) (R : Heap) (s : Shared) : Prop where
  fr : FR A s.heap
  base : Base w (frs A) h₀
  old : Pres (frs A) h₀ s.heap
  ext : Le R s.heap
  roff : ∀ f ∈ frs A, R.get? f = none
  lr : R.get? F.L = none
  cells : Cells F R s.heap A
  has : ∀ x, sc.names.lookup x = some .cell → ∃ c, F.cl.lookup x = some c
  vars : ∃ m, Vars w A sc F h₀ σ R s.heap m

/-- from one state to a later one -/
structure Step (h₀ R R' : Heap) (s s' : Shared) : Prop where
  le : Le R R'
  new : ∀ b o, R'.get? b = some o → R.get? b = some o ∨ h₀.get? b = none
  same : ∃ h t d, s' = { s with heap := h, toks := t, drawn := d }
theorem Step.refl (h₀ R : Heap) (s : Shared) : Step h₀ R R s s := ⟨.refl R, fun _ _ e => .inl e, s.heap, s.toks, s.drawn, rfl⟩
theorem Step.trans {h₀ R R' R'' : Heap} {s s' s'' : Shared} (x : Step h₀ R R' s s') (y : Step h₀ R' R'' s' s'') : Step h₀ R R'' s s'' where
  le := x.le.trans y.le
  new := fun b o e => (y.new b o e).elim (fun e => x.new b o e) .inr
  same := by
    obtain ⟨h, t, d, rfl⟩ := x.same
    obtain ⟨h', t', d', rfl⟩ := y.same
    exact ⟨h', t', d', rfl⟩
theorem Step.tok {h₀ R : Heap} {s : Shared} {t : Nat} : Step h₀ R R s { s with toks := t } := ⟨.refl R, fun _ _ e => .inl e, s.heap, t, s.drawn, rfl⟩
theorem Step.heap {h₀ R : Heap} {s : Shared} {h : Heap} {t : Nat} : Step h₀ R R s { s with heap := h, toks := t } := ⟨.refl R, fun _ _ e => .inl e, h, t, s.drawn, rfl⟩

structure Room (k : Nat) (A : Around) : Prop where
  d : A.depth + k ≤ 901
  u : A.units + 8 * k ≤ 9000
  h : A.handled = none
  f : 5 ≤ k → A.frames.isSome = true
theorem Room.le {j k : Nat} {A : Around} (x : Room k A) (h : j ≤ k) : Room j A := ⟨by have := x.d; omega, by have := x.u; omega, x.h, fun q => x.f (by omega)⟩
theorem Room.lt {k : Nat} {A : Around} (x : Room (k + 1) A) : A.depth < recursionLimit := by have := x.d; unfold recursionLimit; omega
theorem Room.in1 {k : Nat} {A : Around} (x : Room (k + 1) A) : Room k A.in1 := ⟨by have := x.d; simp; omega, by have := x.u; simp; omega, x.h, fun q => x.f (by omega)⟩
theorem Room.deeper {k : Nat} {A : Around} {env : Env} (x : Room (k + 1) A) : Room k (A.deeper env) := ⟨by have := x.d; show A.depth + 1 + k ≤ 901; omega, by have := x.u; show A.units + 3 + 8 * k ≤ 9000; omega, x.h, fun q => by have := x.f (by omega); show (A.frames.map (env :: ·)).isSome = true; rw [Option.isSome_map]; exact this⟩
theorem Room.c {k : Nat} {A : Around} (x : Room k A) : A.units + 64 < cLine := by have := x.u; unfold cLine; omega
/-- the frame's locals and cells are younger than the call -/
structure Fresh (F : FrS) (h₀ : Heap) : Prop where
  L : h₀.get? F.L = none
  c : F.fn.isSome = true → ∀ x c, F.cl.lookup x = some c → h₀.get? c = none

inductive Fl where
  | next | brk | cont
  | ret (d : D)
inductive FlRep (w : World) (R : Heap) : Fl → Flow → Prop
  | next : FlRep w R .next .next
  | brk : FlRep w R .brk .brk
  | cont : FlRep w R .cont .cont
  | ret {d : D} {v : Value} : Rep w R d v → FlRep w R (.ret d) (.ret v)

/-- an expression comes out as d -/
noncomputable def Ev (w : World) (k : Nat) (sc : Scope) (σ : St) (e : PySem.Expr) (d : D) (σ' : St) : Prop :=
  ∀ A F h₀ R s, Room k A → Sat w A sc F h₀ σ R s →
    wpAny (MM w) A (eval e (mkEnv sc F)) (fun v s' => ∃ R', Step h₀ R R' s s' ∧ Sat w A sc F h₀ σ' R' s' ∧ Rep w R' d v) (fun _ _ => False) s

/-- an expression comes out as a list or dict that nobody else has -/
noncomputable def EvN (w : World) (k : Nat) (sc : Scope) (σ : St) (e : PySem.Expr) (d : D) (σ' : St) : Prop :=
  ∀ A F h₀ R s, Room k A → Sat w A sc F h₀ σ R s →
    wpAny (MM w) A (eval e (mkEnv sc F)) (fun v s' => ∃ R' a, Step h₀ R R' s s' ∧ Sat w A sc F h₀ σ' R' s' ∧ v = .ref a ∧ Own w s'.heap R' d a ∧ Off A F h₀ R' a ∧
      (∀ m x e, s'.heap.Ns F.L m → σ'.lookup x = some (.own e) → ¬ At sc F s'.heap m x (.ref a))) (fun _ _ => False) s

noncomputable def Ex (w : World) (k : Nat) (sc : Scope) (σ : St) (st : Stmt) (f : Fl) (σ' : St) : Prop :=
  ∀ A F h₀ R s, F.fn.isSome = true → Fresh F h₀ → Room k A → Sat w A sc F h₀ σ R s →
    wpAny (MM w) A (exec st (mkEnv sc F)) (fun v s' => ∃ R', Step h₀ R R' s s' ∧ Sat w A sc F h₀ σ' R' s' ∧ FlRep w R' f v) (fun _ _ => False) s

/-- the frame stands atop the others, where these are told -/
noncomputable def Top (k : Nat) (A : Around) (env : Env) : Prop := 5 ≤ k → ∃ outer, A.frames = some (env :: outer)

noncomputable def Exs (w : World) (k : Nat) (sc : Scope) (σ : St) (sts : List Stmt) (f : Fl) (σ' : St) : Prop :=
  ∀ A F h₀ R s, F.fn.isSome = true → Fresh F h₀ → Room k A → Sat w A sc F h₀ σ R s →
    wpAny (MM w) A (execs sts (mkEnv sc F)) (fun v s' => ∃ R', Step h₀ R R' s s' ∧ Sat w A sc F h₀ σ' R' s' ∧ FlRep w R' f v) (fun _ _ => False) s

/-- the same, with the frame atop -/
noncomputable def ExT (w : World) (k : Nat) (sc : Scope) (σ : St) (st : Stmt) (f : Fl) (σ' : St) : Prop :=
  ∀ A F h₀ R s, F.fn.isSome = true → Fresh F h₀ → Room k A → Top k A (mkEnv sc F) → Sat w A sc F h₀ σ R s →
    wpAny (MM w) A (exec st (mkEnv sc F)) (fun v s' => ∃ R', Step h₀ R R' s s' ∧ Sat w A sc F h₀ σ' R' s' ∧ FlRep w R' f v) (fun _ _ => False) s
noncomputable def ExsT (w : World) (k : Nat) (sc : Scope) (σ : St) (sts : List Stmt) (f : Fl) (σ' : St) : Prop :=
  ∀ A F h₀ R s, F.fn.isSome = true → Fresh F h₀ → Room k A → Top k A (mkEnv sc F) → Sat w A sc F h₀ σ R s →
    wpAny (MM w) A (execs sts (mkEnv sc F)) (fun v s' => ∃ R', Step h₀ R R' s s' ∧ Sat w A sc F h₀ σ' R' s' ∧ FlRep w R' f v) (fun _ _ => False) s

/-- a call of f gives back d -/
noncomputable def Contract (w : World) (k : Nat) (f : Value) (args : List D) (d : D) : Prop :=
  ∀ A R s vs, Room k A → FR A s.heap → Base w (frs A) s.heap → Le R s.heap → (∀ f ∈ frs A, R.get? f = none) → RepL w R args vs →
    codeAny (MM w) A (.call f ⟨vs, []⟩) (fun r s' => ∃ v R', r = .ok (.ret v) ∧ Step s.heap R R' s s' ∧ Pres (frs A) s.heap s'.heap ∧ Le R' s'.heap ∧ Rep w R' d v) s
end Mine
end

noncomputable section
open PySem PySem.W PyProof.Rows
namespace Mine

section
variable {w : World} {A : Around} {sc : Scope} {F : FrS} {h₀ h₀' R R' h h' : Heap} {σ σ' : St} {s s' : Shared} {m m' : Str → Option Value}

theorem At.fwd (k : ∀ x c v, F.cl.lookup x = some c → h.IsCell c v → h'.IsCell c v) {x : Str} {v : Value} (a : At sc F h m x v) : At sc F h' m x v := by
  rcases a with ⟨q, e⟩ | ⟨q, e, i⟩ | ⟨q, e, i⟩
  · exact .loc q e
  · exact .cel q e (k _ _ _ e i)
  · exact .fre q e (k _ _ _ e i)
theorem At.bwd (C : ∀ x c, F.cl.lookup x = some c → ∃ v, h.IsCell c v) (k : ∀ x c v, F.cl.lookup x = some c → h.IsCell c v → h'.IsCell c v) {x : Str} {v : Value} (a : At sc F h' m x v) : At sc F h m x v := by
  rcases a with ⟨q, e⟩ | ⟨q, e, i⟩ | ⟨q, e, i⟩
  · exact .loc q e
  · obtain ⟨u, hu⟩ := C _ _ e
    have := cell_inj (k _ _ _ e hu) i
    subst this; exact .cel q e hu
  · obtain ⟨u, hu⟩ := C _ _ e
    have := cell_inj (k _ _ _ e hu) i
    subst this; exact .fre q e hu

theorem Vars.inj (V : Vars w A sc F h₀ σ R h m) {h1 : Heap} (e : h1.Ns F.L m') (hh : h1 = h) : m' = m := by
  subst hh
  obtain ⟨o, es, ep, a, b, c, d⟩ := V.ns
  obtain ⟨o', es', ep', a', b', c', d'⟩ := e
  rw [a] at a'; cases a'; rw [b] at b'; cases b'
  funext x; rw [← d, ← d']

theorem Cells.mono (C : Cells F R h A) (p : Pres (frs A) h h') (n : ∀ b o, R'.get? b = some o → R.get? b = some o ∨ h.get? b = none) : Cells F R' h' A where
  is := fun x c e => let ⟨v, i⟩ := C.is x c e; ⟨v, p.cell i⟩
  r := fun x c e => none_of fun o q => (n c o q).elim (fun q => nomatch (C.r x c e).symm.trans q) fun q => by
    obtain ⟨v, o, ho, _⟩ := C.is x c e; exact nomatch q.symm.trans ho
  l := C.l
  p := C.p
  inj := C.inj

/-- the heap grows, and what is frozen with it -/
theorem Sat.grow (S : Sat w A sc F h₀ σ R s) {t : Nat} {d : Drawn} (p : Pres (frs A) s.heap h') (l : Le R R') (e : Le R' h')
    (n : ∀ b o, R'.get? b = some o → R.get? b = some o ∨ s.heap.get? b = none) : Sat w A sc F h₀ σ R' { s with heap := h', toks := t, drawn := d } where
  fr := S.fr.mono p
  base := S.base
  old := S.old.trans p
  ext := e
  roff := fun f hf => none_of fun o q => (n f o q).elim (fun q => nomatch (S.roff f hf).symm.trans q) fun q => by
    obtain ⟨o, ho⟩ := S.fr.isSome hf; exact nomatch q.symm.trans ho
  lr := none_of fun o q => (n _ o q).elim (fun q => nomatch S.lr.symm.trans q) fun q => by
    obtain ⟨m, V⟩ := S.vars; obtain ⟨o, _, _, ho, _⟩ := V.ns; exact nomatch q.symm.trans ho
  cells := S.cells.mono p n
  has := S.has
  vars := by
    obtain ⟨m, V⟩ := S.vars
    have fw : ∀ {x v}, At sc F s.heap m x v → At sc F h' m x v := At.fwd fun _ _ _ _ i => p.cell i
    have bw : ∀ {x v}, At sc F h' m x v → At sc F s.heap m x v := At.bwd S.cells.is fun _ _ _ _ i => p.cell i
    refine ⟨m, p.ns V.ns, fun x sl q => ?_, fun x d a q i => ?_, fun x y d e a q q' i i' => V.apart x y d e a q q' (bw i) (bw i')⟩
    · obtain ⟨v, a, ok⟩ := V.at_ x sl q
      refine ⟨v, fw a, ?_⟩
      cases ok with
      | fz r => exact .fz (r.mono l)
      | own o => exact .own (o.same (fun ob e => (p _ ob e).1 (V.off x _ _ q a).p) l)
    · have O := V.off x d a q (bw i)
      refine ⟨O.h, none_of fun o z => (n a o z).elim (fun z => nomatch O.r.symm.trans z) fun z => ?_, O.l, O.c, O.p⟩
      obtain ⟨v, a', ok⟩ := V.at_ x _ q
      have := At.inj a' (bw i); subst this
      cases ok with
      | own o => obtain ⟨o, ho⟩ := o.isSome; exact nomatch z.symm.trans ho

theorem Sat.keep (S : Sat w A sc F h₀ σ R s) {t : Nat} {d : Drawn} (l : Le s.heap h') : Sat w A sc F h₀ σ R { s with heap := h', toks := t, drawn := d } :=
  S.grow (.of_le l) (.refl R) (S.ext.trans l) fun _ _ e => .inl e
theorem Sat.tok (S : Sat w A sc F h₀ σ R s) (t : Nat) : Sat w A sc F h₀ σ R { s with toks := t } := S.keep (h' := s.heap) (.refl _)
theorem Sat.push (S : Sat w A sc F h₀ σ R s) {t : Nat} (o : Obj) : Sat w A sc F h₀ σ R { s with heap := s.heap.push o, toks := t } := S.keep (Le.push _ o)

/-- R and one address more -/
noncomputable def addR (R h : Heap) (a : Addr) : Heap := only h fun b => (R.get? b).isSome || b == a
theorem addR_get (l : Le R h) {a b : Addr} {o : Obj} : (addR R h a).get? b = some o ↔ R.get? b = some o ∨ (b = a ∧ h.get? b = some o) := by
  unfold addR
  rw [only_some]
  simp only [Bool.or_eq_true, beq_iff_eq]
  constructor
  · rintro ⟨q | q, e⟩
    · cases z : R.get? b with
      | none => rw [z] at q; cases q
      | some o' => have := l b o' z; rw [e] at this; cases this; exact .inl rfl
    · exact .inr ⟨q, e⟩
  · rintro (q | ⟨q, e⟩)
    · exact ⟨.inl (by rw [q]; rfl), l b o q⟩
    · exact ⟨.inr q, e⟩
theorem addR_le (l : Le R h) (a : Addr) : Le R (addR R h a) := fun b o e => (addR_get l).mpr (.inl e)
theorem addR_ext (R h : Heap) (a : Addr) : Le (addR R h a) h := only_le _ _
theorem addR_self (l : Le R h) {a : Addr} {o : Obj} (e : h.get? a = some o) : (addR R h a).get? a = some o := (addR_get l).mpr (.inr ⟨rfl, e⟩)

theorem get_size (h : Heap) : h.get? h.objs.size = none := none_of fun o e => absurd (Heap.lt_size e) (Nat.lt_irrefl _)

/-- a new object, frozen at once -/
theorem Sat.pushR (S : Sat w A sc F h₀ σ R s) {t : Nat} {d : Drawn} (l : Le s.heap h') {a : Addr} (n : s.heap.get? a = none) : Sat w A sc F h₀ σ (addR R h' a) { s with heap := h', toks := t, drawn := d } :=
  S.grow (.of_le l) (addR_le (S.ext.trans l) a) (addR_ext _ _ _) fun b o e => ((addR_get (S.ext.trans l)).mp e).imp id fun ⟨q, _⟩ => q ▸ n
theorem Step.pushR (S : Sat w A sc F h₀ σ R s) {t : Nat} {d : Drawn} (l : Le s.heap h') {a : Addr} (n : s.heap.get? a = none) : Step h₀ R (addR R h' a) s { s with heap := h', toks := t, drawn := d } where
  le := addR_le (S.ext.trans l) a
  new := fun b o e => ((addR_get (S.ext.trans l)).mp e).imp id fun ⟨q, _⟩ => none_of fun o e => by
    obtain ⟨_, o', e', _⟩ := S.old b o e
    exact nomatch (q ▸ n).symm.trans e'
  same := ⟨h', t, d, rfl⟩

theorem Sat.off_new (S : Sat w A sc F h₀ σ R s) {a : Addr} (n : s.heap.get? a = none) : Off A F h₀ R a where
  h := none_of fun o e => by obtain ⟨_, o', e', _⟩ := S.old a o e; exact nomatch n.symm.trans e'
  r := none_of fun o e => nomatch n.symm.trans (S.ext a o e)
  l := fun e => by obtain ⟨m, V⟩ := S.vars; obtain ⟨o, _, _, ho, _⟩ := V.ns; subst e; exact nomatch n.symm.trans ho
  c := fun y c e q => by obtain ⟨v, o, ho, _⟩ := S.cells.is y c e; subst q; exact nomatch n.symm.trans ho
  p := fun hf => by obtain ⟨o, ho⟩ := S.fr.isSome hf; exact nomatch n.symm.trans ho
theorem Sat.notOwn (S : Sat w A sc F h₀ σ R s) {a : Addr} (n : s.heap.get? a = none) {m : Str → Option Value} {x : Str} {e : D} (hn : s.heap.Ns F.L m) (q : σ.lookup x = some (.own e)) : ¬ At sc F s.heap m x (.ref a) := fun i => by
  obtain ⟨m', V⟩ := S.vars
  have := V.inj hn rfl; subst this
  obtain ⟨v, a', ok⟩ := V.at_ x _ q
  have := At.inj a' i; subst this
  cases ok with
  | own o => obtain ⟨o, ho⟩ := o.isSome; exact nomatch n.symm.trans ho

theorem Sat.weaken (S : Sat w A sc F h₀ σ R s) (q : ∀ x sl, σ'.lookup x = some sl → σ.lookup x = some sl) : Sat w A sc F h₀ σ' R s :=
  { S with vars := let ⟨m, V⟩ := S.vars; ⟨m, V.ns, fun x sl e => V.at_ x sl (q x sl e), fun x d a e => V.off x d a (q x _ e), fun x y d e a e1 e2 => V.apart x y d e a (q _ _ e1) (q _ _ e2)⟩ }

/-- a name set -/
noncomputable def put (σ : St) (x : Str) (sl : Slot) : St := (x, sl) :: σ.filter fun p => !(p.1 == x)
theorem lookup_filter (x y : Str) (h : (y == x) = false) : ∀ σ : St, (σ.filter fun p => !(p.1 == x)).lookup y = σ.lookup y
  | [] => rfl
  | (z, sl) :: σ => by
    have ih := lookup_filter x y h σ
    by_cases e : (z == x) = true
    · have ez : z = x := by simpa using e
      subst ez
      simp [List.filter_cons, List.lookup_cons, h, ih]
    · have ez : (z == x) = false := by simpa using e
      simp only [List.filter_cons, ez, Bool.not_false, if_true, List.lookup_cons, ih]
theorem lookup_put (σ : St) (x y : Str) (sl : Slot) : (put σ x sl).lookup y = if y = x then some sl else σ.lookup y := by
  unfold put
  rw [List.lookup_cons]
  by_cases e : y = x
  · subst e; simp
  · have : (y == x) = false := by simpa using e
    rw [this, lookup_filter x y this, if_neg e]

/-- a local is stored -/
theorem Sat.storeL (S : Sat w A sc F h₀ σ R s) (lh : h₀.get? F.L = none) {x : Str} {sl : Slot} {v : Value} {t : Nat} (hx : sc.names.lookup x = some .local) {m : Str → Option Value} (hm : s.heap.Ns F.L m)
    (hn : h'.Ns F.L (fun y => if y = x then some v else m y)) (hs : Heap.SameBut F.L s.heap h') (ok : SlotOk w s.heap R sl v)
    (off : ∀ d a, sl = .own d → v = .ref a → Off A F h₀ R a ∧ ∀ y e, σ.lookup y = some (.own e) → ¬ At sc F s.heap m y (.ref a)) :
    Sat w A sc F h₀ (put σ x sl) R { s with heap := h', toks := t } := by
  obtain ⟨m0, V⟩ := S.vars
  have := V.inj hm rfl; subst this
  have nl : ∀ b o, b ≠ F.L → s.heap.get? b = some o → h'.get? b = some o := fun b o ne e => (hs.2 b ne).trans e
  have cel : ∀ y c v, F.cl.lookup y = some c → s.heap.IsCell c v → h'.IsCell c v := fun y c v e ⟨o, ho, hd⟩ => ⟨o, nl c o (S.cells.l y c e) ho, hd⟩
  have bw : ∀ {y v}, At sc F h' m y v → At sc F s.heap m y v := At.bwd S.cells.is cel
  have bw' : ∀ {y u}, y ≠ x → At sc F h' (fun y => if y = x then some v else m y) y u → At sc F s.heap m y u := fun {y u} ne a => by
    refine bw ?_
    rcases a with ⟨k, e⟩ | ⟨k, e, i⟩ | ⟨k, e, i⟩
    · exact .loc k (by simpa [ne] using e)
    · exact .cel k e i
    · exact .fre k e i
  have atx : ∀ {u}, At sc F h' (fun y => if y = x then some v else m y) x u → u = v := fun {u} a => by
    rcases a with ⟨k, e⟩ | ⟨k, e, i⟩ | ⟨k, e, i⟩
    · simpa using e.symm
    · exact nomatch hx.symm.trans k
    · exact nomatch hx.symm.trans k
  have fw : ∀ {y u}, y ≠ x → At sc F s.heap m y u → At sc F h' (fun y => if y = x then some v else m y) y u := fun {y u} ne a => by
    rcases a with ⟨k, e⟩ | ⟨k, e, i⟩ | ⟨k, e, i⟩
    · exact .loc k (by simpa [ne] using e)
    · exact .cel k e (cel _ _ _ e i)
    · exact .fre k e (cel _ _ _ e i)
  have sl_ok : ∀ {sl u}, (∀ a, u = .ref a → ∀ d, sl = .own d → a ≠ F.L) → SlotOk w s.heap R sl u → SlotOk w h' R sl u := fun {sl u} ne k => by
    cases k with
    | fz r => exact .fz r
    | own o => exact .own (o.same (fun ob e => nl _ _ (ne _ rfl _ rfl) e) (.refl R))
  refine { fr := ?_, base := S.base, old := ?_, ext := ?_, roff := S.roff, lr := S.lr, cells := ?_, has := S.has, vars := ⟨_, hn, ?_, ?_, ?_⟩ }
  · intro envs e env he
    obtain ⟨k, f, o, es, ep, a, b, c⟩ := S.fr envs e env he
    by_cases ef : f = F.L
    · subst ef
      obtain ⟨o', es', ep', e', d', _⟩ := hn
      exact ⟨k, F.L, o', es', ep', a, e', d'⟩
    · exact ⟨k, f, o, es, ep, a, nl f o ef b, c⟩
  · exact S.old.trans' fun b o e => (hs.2 b (fun q => by rw [q, lh] at e; cases e))
  · exact fun b o e => nl b o (fun q => by rw [q, S.lr] at e; cases e) (S.ext b o e)
  · exact { S.cells with is := fun y c e => let ⟨v, i⟩ := S.cells.is y c e; ⟨v, cel y c v e i⟩ }
  · intro y sl' e
    rw [lookup_put] at e
    by_cases ey : y = x
    · subst ey
      rw [if_pos rfl] at e; cases e
      exact ⟨v, .loc hx (by simp), sl_ok (fun a ea d ed => (off d a ed ea).1.l) ok⟩
    · rw [if_neg ey] at e
      obtain ⟨u, a, k⟩ := V.at_ y sl' e
      exact ⟨u, fw ey a, sl_ok (fun b eb d ed => by subst eb; subst ed; exact (V.off y d b e a).l) k⟩
  · intro y d a e i
    rw [lookup_put] at e
    by_cases ey : y = x
    · subst ey
      rw [if_pos rfl] at e; cases e
      exact (off d a rfl (atx i).symm).1
    · rw [if_neg ey] at e
      exact V.off y d a e (bw' ey i)
  · intro y z d e' a e1 e2 i1 i2
    rw [lookup_put] at e1 e2
    by_cases ey : y = x <;> by_cases ez : z = x
    · rw [ey, ez]
    · subst ey
      rw [if_pos rfl] at e1; cases e1
      rw [if_neg ez] at e2
      exact ((off d a rfl (atx i1).symm).2 z e' e2 (bw' ez i2)).elim
    · subst ez
      rw [if_pos rfl] at e2; cases e2
      rw [if_neg ey] at e1
      exact ((off e' a rfl (atx i2).symm).2 y d e1 (bw' ey i1)).elim
    · rw [if_neg ey] at e1
      rw [if_neg ez] at e2
      exact V.apart y z d e' a e1 e2 (bw' ey i1) (bw' ez i2)
end
end Mine
end

noncomputable section
open PySem PySem.W PyProof.Rows
namespace Mine

section
variable {w : World} {A : Around} {sc : Scope} {F : FrS} {h₀ h₀' R R' h h' : Heap} {σ σ' : St} {s s' : Shared} {m m' : Str → Option Value}

theorem FR.but (x : FR A h) {a : Addr} (hs : Heap.SameBut a h h') (ha : a ∉ frs A) : FR A h' := by
  intro envs e env he
  obtain ⟨k, f, o, es, ep, a', b, c⟩ := x envs e env he
  refine ⟨k, f, o, es, ep, a', (hs.2 f fun ef => ha ?_).trans b, c⟩
  subst ef; unfold frs; rw [e]; exact List.mem_filterMap.mpr ⟨env, he, a'⟩

/-- the own object of a name is changed -/
theorem Sat.updOwn (S : Sat w A sc F h₀ σ R s) {x : Str} {d d' : D} {a : Addr} {t : Nat} (q : σ.lookup x = some (.own d)) {m : Str → Option Value} (hm : s.heap.Ns F.L m) (i : At sc F s.heap m x (.ref a))
    (hs : Heap.SameBut a s.heap h') (o : Own w h' R d' a) : Sat w A sc F h₀ (put σ x (.own d')) R { s with heap := h', toks := t } := by
  obtain ⟨m0, V⟩ := S.vars
  have := V.inj hm rfl; subst this
  have O := V.off x d a q i
  have nl : ∀ b o, b ≠ a → s.heap.get? b = some o → h'.get? b = some o := fun b o ne e => (hs.2 b ne).trans e
  have cel : ∀ y c v, F.cl.lookup y = some c → s.heap.IsCell c v → h'.IsCell c v := fun y c v e ⟨o, ho, hd⟩ => ⟨o, nl c o (O.c y c e) ho, hd⟩
  have fw : ∀ {y u}, At sc F s.heap m y u → At sc F h' m y u := At.fwd cel
  have bw : ∀ {y u}, At sc F h' m y u → At sc F s.heap m y u := At.bwd S.cells.is cel
  refine { fr := S.fr.but hs O.p, base := S.base, old := ?_, ext := ?_, roff := S.roff, lr := S.lr, cells := ?_, has := S.has, vars := ⟨m, V.ns.sameBut hs O.l.symm, ?_, ?_, ?_⟩ }
  · exact S.old.trans' fun b o e => (hs.2 b (fun q => by rw [q, O.h] at e; cases e))
  · exact fun b o e => nl b o (fun q => by rw [q, O.r] at e; cases e) (S.ext b o e)
  · exact { S.cells with is := fun y c e => let ⟨v, i⟩ := S.cells.is y c e; ⟨v, cel y c v e i⟩ }
  · intro y sl' e
    rw [lookup_put] at e
    by_cases ey : y = x
    · subst ey
      rw [if_pos rfl] at e; cases e
      exact ⟨_, fw i, .own o⟩
    · rw [if_neg ey] at e
      obtain ⟨u, j, k⟩ := V.at_ y sl' e
      refine ⟨u, fw j, ?_⟩
      cases k with
      | fz r => exact .fz r
      | own o' => exact .own (o'.same (fun ob e' => nl _ _ (fun eb => ey (V.apart y x _ _ a e q (eb ▸ j) i)) e') (.refl R))
  · intro y e b e' j
    rw [lookup_put] at e'
    by_cases ey : y = x
    · subst ey
      have := At.inj (bw j) i; cases this; exact O
    · rw [if_neg ey] at e'; exact V.off y e b e' (bw j)
  · intro y z e1 e2 b l1 l2 j1 j2
    rw [lookup_put] at l1 l2
    by_cases ey : y = x <;> by_cases ez : z = x
    · rw [ey, ez]
    · subst ey; rw [if_neg ez] at l2; exact V.apart y z d e2 b q l2 (bw j1) (bw j2)
    · subst ez; rw [if_neg ey] at l1; exact V.apart y z e1 d b l1 q (bw j1) (bw j2)
    · rw [if_neg ey] at l1; rw [if_neg ez] at l2; exact V.apart y z e1 e2 b l1 l2 (bw j1) (bw j2)

/-- an own thing is owned no more -/
theorem Sat.freeze (S : Sat w A sc F h₀ σ R s) {x : Str} {d : D} (q : σ.lookup x = some (.own d)) : ∃ R', Step h₀ R R' s s ∧ Sat w A sc F h₀ (put σ x (.fz d)) R' s := by
  obtain ⟨m, V⟩ := S.vars
  obtain ⟨v, i, ok⟩ := V.at_ x _ q
  cases ok with
  | @own _ a o =>
    have O := V.off x d a q i
    refine ⟨addR R s.heap a, ⟨addR_le S.ext a, fun b o e => ((addR_get S.ext).mp e).imp id fun ⟨q, _⟩ => q ▸ O.h, s.heap, s.toks, s.drawn, rfl⟩,
      { S with ext := addR_ext _ _ _, roff := ?_, lr := ?_, cells := ?_, vars := ⟨m, V.ns, ?_, ?_, ?_⟩ }⟩
    · exact fun f hf => none_of fun o e => ((addR_get S.ext).mp e).elim (fun z => nomatch (S.roff f hf).symm.trans z) fun ⟨z, _⟩ => O.p (z ▸ hf)
    · exact none_of fun o e => ((addR_get S.ext).mp e).elim (fun z => nomatch S.lr.symm.trans z) fun ⟨z, _⟩ => O.l z.symm
    · exact { S.cells with r := fun y c e => none_of fun o z => ((addR_get S.ext).mp z).elim (fun z => nomatch (S.cells.r y c e).symm.trans z) fun ⟨z, _⟩ => O.c y c e z }
    · intro y sl e
      rw [lookup_put] at e
      by_cases ey : y = x
      · subst ey; rw [if_pos rfl] at e; cases e
        exact ⟨_, i, .fz (o.rep (fun ob e => addR_self S.ext e) (addR_le S.ext a))⟩
      · rw [if_neg ey] at e
        obtain ⟨u, j, k⟩ := V.at_ y sl e
        refine ⟨u, j, ?_⟩
        cases k with
        | fz r => exact .fz (r.mono (addR_le S.ext a))
        | own o' => exact .own (o'.same (fun _ e => e) (addR_le S.ext a))
    · intro y e b e' j
      rw [lookup_put] at e'
      by_cases ey : y = x
      · subst ey; rw [if_pos rfl] at e'; cases e'
      · rw [if_neg ey] at e'
        have O' := V.off y e b e' j
        exact { O' with r := none_of fun o z => ((addR_get S.ext).mp z).elim (fun z => nomatch O'.r.symm.trans z) fun ⟨z, _⟩ => ey (V.apart y x e d a e' q (z ▸ j) i) }
    · intro y z e1 e2 b l1 l2 j1 j2
      rw [lookup_put] at l1 l2
      by_cases ey : y = x
      · subst ey; rw [if_pos rfl] at l1; cases l1
      by_cases ez : z = x
      · subst ez; rw [if_pos rfl] at l2; cases l2
      rw [if_neg ey] at l1; rw [if_neg ez] at l2; exact V.apart y z e1 e2 b l1 l2 j1 j2

/-- an own cell is stored -/
theorem Sat.storeC (S : Sat w A sc F h₀ σ R s) {x : Str} {d : D} {v : Value} {c : Addr} {t : Nat} (hfn : F.fn.isSome = true) (lh : Fresh F h₀) (hx : sc.names.lookup x = some .cell) (hc : F.cl.lookup x = some c)
    (hn : h'.IsCell c (some v)) (hs : Heap.SameBut c s.heap h') (ok : Rep w R d v) :
    Sat w A sc F h₀ (put σ x (.fz d)) R { s with heap := h', toks := t } := by
  obtain ⟨m, V⟩ := S.vars
  have nl : ∀ b o, b ≠ c → s.heap.get? b = some o → h'.get? b = some o := fun b o ne e => (hs.2 b ne).trans e
  have cel : ∀ y, y ≠ x → ∀ e v, F.cl.lookup y = some e → s.heap.IsCell e v → h'.IsCell e v := fun y ne e v q ⟨o, ho, hd⟩ => ⟨o, nl e o (fun z => ne (S.cells.inj y x e q (z ▸ hc))) ho, hd⟩
  have fw : ∀ {y u}, y ≠ x → At sc F s.heap m y u → At sc F h' m y u := fun {y u} ne a => by
    rcases a with ⟨k, e⟩ | ⟨k, e, i⟩ | ⟨k, e, i⟩
    · exact .loc k e
    · exact .cel k e (cel _ ne _ _ e i)
    · exact .fre k e (cel _ ne _ _ e i)
  have bw : ∀ {y u}, y ≠ x → At sc F h' m y u → At sc F s.heap m y u := fun {y u} ne a => by
    rcases a with ⟨k, e⟩ | ⟨k, e, i⟩ | ⟨k, e, i⟩
    · exact .loc k e
    · obtain ⟨u', hu⟩ := S.cells.is _ _ e
      have := cell_inj (cel _ ne _ _ e hu) i; subst this; exact .cel k e hu
    · obtain ⟨u', hu⟩ := S.cells.is _ _ e
      have := cell_inj (cel _ ne _ _ e hu) i; subst this; exact .fre k e hu
  refine { fr := S.fr.but hs (S.cells.p x c hc), base := S.base, old := ?_, ext := ?_, roff := S.roff, lr := S.lr, cells := ?_, has := S.has, vars := ⟨m, V.ns.sameBut hs (S.cells.l x c hc).symm, ?_, ?_, ?_⟩ }
  · exact S.old.trans' fun b o e => (hs.2 b (fun q => by rw [q, lh.c hfn x c hc] at e; cases e))
  · exact fun b o e => nl b o (fun q => by rw [q, S.cells.r x c hc] at e; cases e) (S.ext b o e)
  · refine { S.cells with is := fun y e q => ?_ }
    by_cases ey : y = x
    · subst ey; rw [hc] at q; cases q; exact ⟨_, hn⟩
    · obtain ⟨v, i⟩ := S.cells.is y e q; exact ⟨v, cel y ey e v q i⟩
  · intro y sl e
    rw [lookup_put] at e
    by_cases ey : y = x
    · subst ey; rw [if_pos rfl] at e; cases e
      exact ⟨v, .cel hx hc hn, .fz ok⟩
    · rw [if_neg ey] at e
      obtain ⟨u, j, k⟩ := V.at_ y sl e
      refine ⟨u, fw ey j, ?_⟩
      cases k with
      | fz r => exact .fz r
      | own o => exact .own (o.same (fun ob e' => nl _ _ (fun z => (V.off y _ _ e j).c x c hc z.symm) e') (.refl R))
  · intro y e b e' j
    rw [lookup_put] at e'
    by_cases ey : y = x
    · subst ey; rw [if_pos rfl] at e'; cases e'
    · rw [if_neg ey] at e'; exact V.off y e b e' (bw ey j)
  · intro y z e1 e2 b l1 l2 j1 j2
    rw [lookup_put] at l1 l2
    by_cases ey : y = x
    · subst ey; rw [if_pos rfl] at l1; cases l1
    by_cases ez : z = x
    · subst ez; rw [if_pos rfl] at l2; cases l2
    rw [if_neg ey] at l1; rw [if_neg ez] at l2; exact V.apart y z e1 e2 b l1 l2 (bw ey j1) (bw ez j2)

/-- h₀ as it now stands, and more that is to stay -/
noncomputable def lock (h₀ h : Heap) (p : Addr → Bool) : Heap := only h fun b => (h₀.get? b).isSome || p b
theorem lock_pres {P : List Addr} (q : Pres P h₀ h) (p : Addr → Bool) : Pres P h₀ (lock h₀ h p) := fun b o e => by
  obtain ⟨q1, o', q2, q3⟩ := q b o e
  refine ⟨fun n => only_some.mpr ⟨?_, q1 n⟩, o', only_some.mpr ⟨?_, q2⟩, q3⟩ <;> (rw [e]; rfl)
theorem lock_le (h₀ h : Heap) (p : Addr → Bool) : Le (lock h₀ h p) h := only_le _ _
theorem lock_none {p : Addr → Bool} {a : Addr} (e : h₀.get? a = none) (n : p a = false) : (lock h₀ h p).get? a = none := none_of fun o q => by
  have := (only_some.mp q).1
  rw [e, n] at this; cases this
theorem lock_self {p : Addr → Bool} {a : Addr} {o : Obj} (n : p a = true) (e : h.get? a = some o) : (lock h₀ h p).get? a = some o := only_some.mpr ⟨by rw [n, Bool.or_true], e⟩

theorem Sat.lock (S : Sat w A sc F h₀ σ R s) (p : Addr → Bool) (hp : ∀ a, p a = true →
    ∀ m x d, s.heap.Ns F.L m → σ.lookup x = some (.own d) → ¬ At sc F s.heap m x (.ref a)) : Sat w A sc F (lock h₀ s.heap p) σ R s := by
  have pf : ∀ a, (∃ m x d, s.heap.Ns F.L m ∧ σ.lookup x = some (.own d) ∧ At sc F s.heap m x (.ref a)) → p a = false := fun a h => by
    cases q : p a with
    | false => rfl
    | true =>
      obtain ⟨m, x, d, h1, h2, h3⟩ := h
      exact (hp a q m x d h1 h2 h3).elim
  obtain ⟨m, V⟩ := S.vars
  exact { S with
    base := S.base.mono (lock_pres S.old p)
    old := .of_le (lock_le _ _ _)
    vars := ⟨m, { V with off := fun x d a q i => { V.off x d a q i with h := lock_none (V.off x d a q i).h (pf _ ⟨m, x, d, V.ns, q, i⟩) } }⟩ }

theorem Sat.unlock (S : Sat w A sc F h₀' σ R s') (b : Base w (frs A) h₀) (q : Pres (frs A) h₀ h₀') : Sat w A sc F h₀ σ R s' := by
  have nn : ∀ a, h₀'.get? a = none → h₀.get? a = none := fun a e => none_of fun o z => by obtain ⟨_, o', e', _⟩ := q a o z; exact nomatch e.symm.trans e'
  obtain ⟨m, V⟩ := S.vars
  exact { S with
    base := b
    old := q.trans S.old
    vars := ⟨m, { V with off := fun x d a q i => { V.off x d a q i with h := nn _ (V.off x d a q i).h } }⟩ }
theorem Step.unlock {R₁ R₂ : Heap} (x : Step h₀' R₁ R₂ s s') {P : List Addr} (q : Pres P h₀ h₀') : Step h₀ R₁ R₂ s s' :=
  ⟨x.le, fun b o e => (x.new b o e).imp id fun e => none_of fun o z => (by obtain ⟨_, o', e', _⟩ := q b o z; exact (nomatch e.symm.trans e')), x.same⟩
end
end Mine
end

noncomputable section
open PySem PySem.W PyProof.Rows
namespace Mine


/-- what a step beside the frame knows -/
structure Cx (w : World) (k : Nat) (A : Around) (R : Heap) (s : Shared) : Prop where
  room : Room k A
  fr : FR A s.heap
  base : Base w (frs A) s.heap
  ext : Le R s.heap
  roff : ∀ f ∈ frs A, R.get? f = none
/-- what a step beside the frame does -/
structure Mv (A : Around) (R R' : Heap) (s s' : Shared) : Prop where
  le : Le R R'
  new : ∀ b o, R'.get? b = some o → R.get? b = some o ∨ s.heap.get? b = none
  pres : Pres (frs A) s.heap s'.heap
  ext : Le R' s'.heap
  same : ∃ h t d, s' = { s with heap := h, toks := t, drawn := d }

section
variable {w : World} {k : Nat} {A : Around} {sc : Scope} {F : FrS} {h₀ R R' R'' h h' : Heap} {σ σ' σ₁ σ₂ : St} {s s' s'' : Shared}

theorem Sat.cx (S : Sat w A sc F h₀ σ R s) (r : Room k A) : Cx w k A R s := ⟨r, S.fr, S.base.mono S.old, S.ext, S.roff⟩
theorem Sat.mv (S : Sat w A sc F h₀ σ R s) (m : Mv A R R' s s') : Sat w A sc F h₀ σ R' s' := by
  obtain ⟨h, t, d, rfl⟩ := m.same
  exact S.grow m.pres m.le m.ext m.new
theorem Sat.step (S : Sat w A sc F h₀ σ R s) (m : Mv A R R' s s') : Step h₀ R R' s s' where
  le := m.le
  new := fun b o e => (m.new b o e).imp id fun n => none_of fun o z => by obtain ⟨_, o', e', _⟩ := S.old b o z; exact nomatch n.symm.trans e'
  same := m.same
theorem Cx.mv (c : Cx w k A R s) (m : Mv A R R' s s') : Cx w k A R' s' where
  room := c.room
  fr := c.fr.mono m.pres
  base := c.base.mono m.pres
  ext := m.ext
  roff := fun f hf => none_of fun o e => (m.new f o e).elim (fun z => nomatch (c.roff f hf).symm.trans z) fun z => by obtain ⟨o, ho⟩ := c.fr.isSome hf; exact nomatch z.symm.trans ho
theorem Cx.le {j : Nat} (c : Cx w k A R s) (h : j ≤ k) : Cx w j A R s := { c with room := c.room.le h }
theorem Mv.refl (c : Cx w k A R s) : Mv A R R s s := ⟨.refl R, fun _ _ e => .inl e, .refl _ _, c.ext, s.heap, s.toks, s.drawn, rfl⟩
theorem Mv.keep (c : Cx w k A R s) {t : Nat} {d : Drawn} (l : Le s.heap h') : Mv A R R s { s with heap := h', toks := t, drawn := d } :=
  ⟨.refl R, fun _ _ e => .inl e, .of_le l, c.ext.trans l, _, _, _, rfl⟩
theorem Mv.tok (c : Cx w k A R s) (t : Nat) : Mv A R R s { s with toks := t } := ⟨.refl R, fun _ _ e => .inl e, .refl _ _, c.ext, s.heap, t, s.drawn, rfl⟩
/-- one new object, frozen -/
theorem Mv.add (c : Cx w k A R s) {t : Nat} {d : Drawn} (l : Le s.heap h') {a : Addr} (n : s.heap.get? a = none) : Mv A R (addR R h' a) s { s with heap := h', toks := t, drawn := d } where
  le := addR_le (c.ext.trans l) a
  new := fun b o e => ((addR_get (c.ext.trans l)).mp e).imp id fun ⟨q, _⟩ => q ▸ n
  pres := .of_le l
  ext := addR_ext _ _ _
  same := ⟨_, _, _, rfl⟩

/-- a tree hands on d -/
noncomputable def Gives (w : World) (A : Around) (R : Heap) (s : Shared) (t : Sem Value) (d : D) : Prop :=
  wpAny (MM w) A t (fun v s' => ∃ R', Mv A R R' s s' ∧ Rep w R' d v) (fun _ _ => False) s

noncomputable def Op2 (w : World) (k : Nat) (t : Value → Value → Sem Value) (da db d : D) : Prop :=
  ∀ A R s va vb, Cx w k A R s → Rep w R da va → Rep w R db vb → Gives w A R s (t va vb) d
noncomputable def OpL (w : World) (k : Nat) (t : List Value → Sem Value) (ds : List D) (d : D) : Prop :=
  ∀ A R s vs, Cx w k A R s → RepL w R ds vs → Gives w A R s (t vs) d

/-- a tree with the frame at hand -/
noncomputable def Jd {α : Type} (w : World) (k : Nat) (sc : Scope) (σ : St) (t : Env → Sem α) (K : Heap → α → Prop) (σ' : St) : Prop :=
  ∀ A F h₀ R s, Room k A → Sat w A sc F h₀ σ R s →
    wpAny (MM w) A (t (mkEnv sc F)) (fun v s' => ∃ R', Step h₀ R R' s s' ∧ Sat w A sc F h₀ σ' R' s' ∧ K R' v) (fun _ _ => False) s

/-- a test comes out as b -/
noncomputable def Tr (w : World) (k : Nat) (sc : Scope) (σ : St) (e : PySem.Expr) (b : Bool) (σ' : St) : Prop := Jd w k sc σ (fun env => isTrue e env (eval e env)) (fun _ c => c = b) σ'
/-- the arguments of a call -/
noncomputable def Evs (w : World) (k : Nat) (sc : Scope) (σ : St) (es : List PySem.Expr) (ds : List D) (σ' : St) : Prop :=
  ∀ pos, Jd w k sc σ (fun env => spliced (backTo pos (starEach es env))) (fun R vs => RepL w R ds vs) σ'

/-- the same where the rest stands in the post -/
theorem wp_then {α : Type} {t : Sem α} {K : Heap → α → Prop} {Q : α → Shared → Prop} {E : Value → Shared → Prop}
    (h : wpAny (MM w) A t (fun v s' => ∃ R', Step h₀ R R' s s' ∧ Sat w A sc F h₀ σ₁ R' s' ∧ K R' v) (fun _ _ => False) s)
    (n : ∀ v R' s', Step h₀ R R' s s' → Sat w A sc F h₀ σ₁ R' s' → K R' v → Q v s') : wpAny (MM w) A t Q E s :=
  wpAny_mono h (fun v s' ⟨R', st, S, q⟩ => n v R' s' st S q) fun _ _ e => e.elim
/-- a frame step's post, from one that begins later -/
theorem wp_from {α : Type} {t : Sem α} {Q : α → Heap → Shared → Prop} (st : Step h₀ R R' s s')
    (h : wpAny (MM w) A t (fun v s'' => ∃ R'', Step h₀ R' R'' s' s'' ∧ Q v R'' s'') (fun _ _ => False) s') : wpAny (MM w) A t (fun v s'' => ∃ R'', Step h₀ R R'' s s'' ∧ Q v R'' s'') (fun _ _ => False) s' :=
  wpAny_mono h (fun _ _ ⟨R'', st', q⟩ => ⟨R'', st.trans st', q⟩) fun _ _ e => e
/-- a step beside the frame, seen from the frame -/
theorem Sat.gives {t : Sem Value} {d : D} (S : Sat w A sc F h₀ σ R s) (g : Gives w A R s t d) :
    wpAny (MM w) A t (fun v s' => ∃ R', Step h₀ R R' s s' ∧ Sat w A sc F h₀ σ R' s' ∧ Rep w R' d v) (fun _ _ => False) s :=
  wpAny_mono g (fun v s' ⟨R', m, r⟩ => ⟨R', S.step m, S.mv m, r⟩) fun _ _ e => e
/-! names -/
theorem load_any {m : Str → Option Value} {x : Str} {v : Value} {Q : Value → Shared → Prop} {E : Value → Shared → Prop} (hk : sc.kind = .function) (a : At sc F s.heap m x v) (hn : s.heap.Ns F.L m)
    (hc : (x == ("__classdict__" : Str)) = false) (h : Q v s) : wpAny (MM w) A (loadName (mkEnv sc F) x) Q E s := by
  rcases a with ⟨q, e⟩ | ⟨q, e, i⟩ | ⟨q, e, i⟩
  · exact wpAny_loadName_local hk q hn e h
  · exact wpAny_loadName_cell hk q e i h
  · exact wpAny_loadName_free hk q e i h hc
theorem ev_name {x : Str} {pos : Pos} {d : D} (q : σ.lookup x = some (.fz d)) (hk : sc.kind = .function := by rfl) (hd : (x == ("__debug__" : Str)) = false := by decide) (hc : (x == ("__classdict__" : Str)) = false := by decide) :
    Ev w k sc σ (.Name x pos) d σ := fun A F h₀ R s r S => by
  obtain ⟨m, V⟩ := S.vars
  obtain ⟨v, a, ok⟩ := V.at_ x _ q
  refine wpAny_Name (load_any hk a V.ns hc ?_) hd
  cases ok with
  | fz ok => exact ⟨R, .refl .., S, ok⟩
theorem ev_glob {x : Str} {pos : Pos} {v : Value} (e : ∀ w, nsIn (KK w) mainGlobals x = some (some v)) (hx : sc.names.lookup x = some .globalImplicit) (hk : sc.kind = .function := by rfl) (hd : (x == ("__debug__" : Str)) = false := by decide) :
    Ev w k sc σ (.Name x pos) (.val v) σ := fun A F h₀ R s r S => by
  have B := (S.cx r).base
  obtain ⟨mg, G⟩ := B.g
  exact Calls.Name_function_global hk hx (Calls.loadGlobal_global (env := mkEnv sc F) G (mg_of B.k G (e w)) ⟨R, .refl .., S, .val v⟩) hd
theorem ev_builtin {x : Str} {pos : Pos} {v : Value} (e : ∀ w, nsIn (KK w) mainGlobals x = some none) (hv : bootBuiltins x = some v) (hn : x ≠ "__name__") (hx : sc.names.lookup x = some .globalImplicit) (hk : sc.kind = .function := by rfl) (hd : (x == ("__debug__" : Str)) = false := by decide) :
    Ev w k sc σ (.Name x pos) (.val v) σ := fun A F h₀ R s r S => by
  have B := (S.cx r).base
  obtain ⟨mg, G⟩ := B.g
  obtain ⟨mb, Gb, eb⟩ := B.b
  exact Calls.Name_function_global hk hx (Calls.loadGlobal_builtin (env := mkEnv sc F) G (mg_none_of B.k G (e w)) Gb ((eb x hn).trans hv) ⟨R, .refl .., S, .val v⟩) hd

/-! constants -/
theorem ev_int {i : Int} {kd : Nat} {pos : Pos} : Ev w k sc σ (.Constant (.int i) kd pos) (.int i) σ := fun A F h₀ R s r S =>
  wpAny_Constant_int ⟨R, .tok, S.tok _, .int i _⟩
theorem ev_str {x : Str} {kd : Nat} {pos : Pos} : Ev w k sc σ (.Constant (.str x) kd pos) (.str x) σ := fun A F h₀ R s r S =>
  show wpAny (MM w) A (mkText x) _ _ s from wpAny_mkText ⟨R, .tok, S.tok _, .str x _⟩
theorem ev_bool {b : Bool} {kd : Nat} {pos : Pos} : Ev w k sc σ (.Constant (.bool b) kd pos) (.bool b) σ := fun A F h₀ R s r S =>
  wpAny_pure ⟨R, .refl .., S, .bool b⟩
/-! operators -/
theorem ev_binop {l r : PySem.Expr} {op : Operator} {pos : Pos} {da db d : D} (ha : Ev w k sc σ l da σ₁) (hb : Ev w k sc σ₁ r db σ₂) (ho : Op2 w k (binaryOp op) da db d) :
    Ev w k sc σ (.BinOp l op r pos) d σ₂ := fun A F h₀ R s rm S =>
  wpAny_BinOp (wp_then (ha A F h₀ R s rm S) fun va R₁ s₁ st₁ S₁ q₁ => wp_then (hb A F h₀ R₁ s₁ rm S₁) fun vb R₂ s₂ st₂ S₂ q₂ =>
    wp_from (st₁.trans st₂) (S₂.gives (ho A R₂ s₂ va vb (S₂.cx rm) (q₁.mono st₂.le) q₂)))
theorem ev_compare {l r : PySem.Expr} {op : CmpOp} {pos : Pos} {da db d : D} (ha : Ev w k sc σ l da σ₁) (hb : Ev w k sc σ₁ r db σ₂) (ho : Op2 w k (compareOp op) da db d)
    (hm : behindInMarks op r = false := by with_unfolding_all rfl) : Ev w k sc σ (.Compare l [op] [r] pos) d σ₂ := fun A F h₀ R s rm S =>
  wpAny_Compare1 (wp_then (ha A F h₀ R s rm S) fun va R₁ s₁ st₁ S₁ q₁ => wp_then (hb A F h₀ R₁ s₁ rm S₁) fun vb R₂ s₂ st₂ S₂ q₂ =>
    wp_from (st₁.trans st₂) (S₂.gives (ho A R₂ s₂ va vb (S₂.cx rm) (q₁.mono st₂.le) q₂))) hm
theorem tr_compare {l r : PySem.Expr} {op : CmpOp} {pos : Pos} {da db : D} {b : Bool} (ha : Ev w k sc σ l da σ₁) (hb : Ev w k sc σ₁ r db σ₂) (ho : Op2 w k (compareOp op) da db (.bool b))
    (hm : behindInMarks op r = false := by with_unfolding_all rfl) : Tr w k sc σ (.Compare l [op] [r] pos) b σ₂ := fun A F h₀ R s rm S =>
  wpAny_isTrue_Compare1 (wp_then (ha A F h₀ R s rm S) fun va R₁ s₁ st₁ S₁ q₁ => wp_then (hb A F h₀ R₁ s₁ rm S₁) fun vb R₂ s₂ st₂ S₂ q₂ =>
    wp_then (S₂.gives (ho A R₂ s₂ va vb (S₂.cx rm) (q₁.mono st₂.le) q₂)) fun c R₃ s₃ st₃ S₃ q₃ => by
      cases q₃ with
      | bool b => exact wpAny_truthy_bool ⟨R₃, (st₁.trans st₂).trans st₃, S₃, rfl⟩) hm
/-- the truth of a value -/
noncomputable def Truth (w : World) (k : Nat) (d : D) (b : Bool) : Prop := ∀ A R s v, Cx w k A R s → Rep w R d v → wpAny (MM w) A (truthy v) (fun c s' => c = b ∧ Mv A R R s s') (fun _ _ => False) s
theorem tr_plain {e : PySem.Expr} {d : D} {b : Bool} (h : Ev w k sc σ e d σ') (t : Truth w k d b) (he : ∀ env whole, isTrue e env whole = (do let v ← whole; standAt e.pos; holding [v] (truthy v)) := by intro _ _; rfl) : Tr w k sc σ e b σ' :=
  fun A F h₀ R s rm S => isTrue_plain (wp_then (h A F h₀ R s rm S) fun v R₁ s₁ st₁ S₁ q₁ => wpAny_mono (t A R₁ s₁ v (S₁.cx rm) q₁) (fun c s' ⟨e, m⟩ => ⟨R₁, st₁.trans (S₁.step m), S₁.mv m, e⟩) fun _ _ e => e) (he _ _)
theorem truth_bool {b : Bool} : Truth w k (.bool b) b := fun A R s v c r => by cases r; exact wpAny_truthy_bool ⟨rfl, .refl c⟩
theorem tr_not {e : PySem.Expr} {pos : Pos} {b : Bool} (h : Tr w k sc σ e b σ') : Tr w k sc σ (.UnaryOp .Not e pos) (!b) σ' := fun A F h₀ R s rm S =>
  PyProof.Rows.isTrue_not (wp_then (h A F h₀ R s rm S) fun c R₁ s₁ st₁ S₁ q₁ => ⟨R₁, st₁, S₁, by rw [q₁]⟩)
theorem tr_and {e : PySem.Expr} {rest : List PySem.Expr} {pos : Pos} {b c : Bool} (h : Tr w k sc σ e b σ₁) (hr : b = true → Tr w k sc σ₁ (.BoolOp .And rest pos) c σ') (hn : b = false → c = false ∧ σ' = σ₁) : Tr w k sc σ (.BoolOp .And (e :: rest) pos) c σ' := fun A F h₀ R s rm S =>
  isTrue_and (wp_then (h A F h₀ R s rm S) fun b' R₁ s₁ st₁ S₁ q₁ => by
    subst q₁
    cases b' with
    | true => exact wp_from st₁ (hr rfl A F h₀ R₁ s₁ rm S₁)
    | false => obtain ⟨rfl, rfl⟩ := hn rfl; exact ⟨R₁, st₁, S₁, rfl⟩)
theorem tr_and_nil {pos : Pos} : Tr w k sc σ (.BoolOp .And [] pos) true σ := fun A F h₀ R s rm S => isTrue_and_nil ⟨R, .refl .., S, rfl⟩
theorem tr_or {e : PySem.Expr} {rest : List PySem.Expr} {pos : Pos} {b c : Bool} (h : Tr w k sc σ e b σ₁) (hr : b = false → Tr w k sc σ₁ (.BoolOp .Or rest pos) c σ') (hn : b = true → c = true ∧ σ' = σ₁) : Tr w k sc σ (.BoolOp .Or (e :: rest) pos) c σ' := fun A F h₀ R s rm S =>
  isTrue_or (wp_then (h A F h₀ R s rm S) fun b' R₁ s₁ st₁ S₁ q₁ => by
    subst q₁
    cases b' with
    | false => exact wp_from st₁ (hr rfl A F h₀ R₁ s₁ rm S₁)
    | true => obtain ⟨rfl, rfl⟩ := hn rfl; exact ⟨R₁, st₁, S₁, rfl⟩)
theorem tr_or_nil {pos : Pos} : Tr w k sc σ (.BoolOp .Or [] pos) false σ := fun A F h₀ R s rm S => isTrue_or_nil ⟨R, .refl .., S, rfl⟩
theorem ev_ifexp {t b e : PySem.Expr} {pos : Pos} {c : Bool} {d : D} (ht : Tr w k sc σ t c σ₁) (hb : c = true → Ev w k sc σ₁ b d σ') (he : c = false → Ev w k sc σ₁ e d σ') : Ev w k sc σ (.IfExp t b e pos) d σ' := fun A F h₀ R s rm S =>
  wpAny_IfExp (wp_then (ht A F h₀ R s rm S) fun c' R₁ s₁ st₁ S₁ q₁ => by
    subst q₁
    cases c' with
    | true => exact wp_from st₁ (hb rfl A F h₀ R₁ s₁ rm S₁)
    | false => exact wp_from st₁ (he rfl A F h₀ R₁ s₁ rm S₁))

/-! several -/
theorem evs_nil : Evs w k sc σ [] [] σ := fun pos A F h₀ R s rm S => Calls.spliced_nil ⟨R, .refl .., S, .nil⟩
theorem evs_cons {e : PySem.Expr} {es : List PySem.Expr} {d : D} {ds : List D} (h : Ev w k sc σ e d σ₁) (hs : Evs w k sc σ₁ es ds σ')
    (he : ∀ env, starEach (e :: es) env = (false, eval e env) :: starEach es env := by intro _; rfl) : Evs w k sc σ (e :: es) (d :: ds) σ' := fun pos A F h₀ R s rm S => by
  show wpAny (MM w) A (spliced (backTo pos (starEach (e :: es) (mkEnv sc F)))) _ _ s
  rw [he]
  exact Calls.spliced_cons (wp_then (h A F h₀ R s rm S) fun v R₁ s₁ st₁ S₁ q₁ => wp_then (hs pos A F h₀ R₁ s₁ rm S₁) fun vs R₂ s₂ st₂ S₂ q₂ => ⟨R₂, st₁.trans st₂, S₂, .cons (q₁.mono st₂.le) q₂⟩)
end
end Mine
end

noncomputable section
open PySem PySem.W PyProof.Rows
namespace Mine

section
variable {w : World} {k : Nat} {A : Around} {sc : Scope} {F : FrS} {h₀ R R' R'' h h' : Heap} {σ σ' σ₁ σ₂ σ₃ : St} {s s' s'' : Shared} {fn : Prop}

/-! what a call needs of the callee -/
noncomputable def CallOk (w : World) (f : Value) : Prop := ∀ {A : Around} {E : Value → Shared → Prop} {s : Shared} {pos : Pos} {first : List Value} {args : List (Bool × Sem Value)} {Q : Value → Shared → Prop},
  args.any (·.1) = false → wpAny (MM w) A (spliced args) (fun vs s₁ => (KK w).In s₁.heap ∧ wpAny (MM w) A (call f (first ++ vs)) Q E s₁) E s → wpAny (MM w) A (callWith pos f first args []) Q E s
theorem evalArgs_any {M : Model} {E : Value → Shared → Prop} {f : Value} {args : List (Bool × Sem Value)} {Q : Args → Shared → Prop} (hp : args.any (·.1) = false) (h : wpAny M A (spliced args) (fun vs s' => Q ⟨vs, []⟩ s') E s) : wpAny M A (evalArgs f true args []) Q E s := by
  cases args with
  | nil => exact fun Γ p hΓ => evalArgs_nil3 (E := E) (s := s) (A := A) (f := f) (M := M) (Q := Q) (h Γ p hΓ) Γ p hΓ
  | cons x r =>
    obtain ⟨b, x⟩ := x
    have : b = false := by simp only [List.any_cons, Bool.or_eq_false_iff] at hp; exact hp.1
    subst this
    exact Calls.evalArgs_plain h
theorem callOk_builtin (id : String) : CallOk w (.builtin id) := fun hp h => Calls.callWith_builtin hp (evalArgs_any hp (wpAny_mono h (fun _ _ x => x.2) fun _ _ e => e))
theorem callOk_type (T : String) : CallOk w (.type T) := fun hp h => PyProof.Rows.callWith_type hp (evalArgs_any hp (wpAny_mono h (fun _ _ x => x.2) fun _ _ e => e))
theorem callOk_K {f : Value} (hk : keepIn (KK w) f = true) : CallOk w f := fun hp h => callWith_of (by simpa using hp) (keeps_K hk) (evalArgs_any hp h)

/-- several arguments, none of them starred -/
noncomputable def Plain (es : List PySem.Expr) : Prop := ∀ pos env, (backTo pos (starEach es env)).any (·.1) = false

theorem ev_call {x : Str} {p pos : Pos} {args : List PySem.Expr} {f : Value} {ds : List D} {d : D} (hf : Ev w k sc σ (.Name x p) (.val f) σ₁) (ok : CallOk w f) (ha : Evs w k sc σ₁ args ds σ')
    (ho : OpL w k (fun vs => call f vs) ds d) (hp : Plain args := by intro _ _; rfl) : Ev w k sc σ (.Call (.Name x p) args [] pos) d σ' := fun A F h₀ R s rm S =>
  Call_Name rfl (wp_then (hf A F h₀ R s rm S) fun v R₁ s₁ st₁ S₁ q₁ => by
    cases q₁
    refine ok (hp _ _) (wp_then (ha pos A F h₀ R₁ s₁ rm S₁) fun vs R₂ s₂ st₂ S₂ q₂ => ⟨(S₂.cx rm).base.k, ?_⟩)
    rw [List.nil_append]
    exact wp_from (st₁.trans st₂) (S₂.gives (ho A R₂ s₂ vs (S₂.cx rm) q₂)))

/-- the method that a value has by a name -/
noncomputable def Meth (w : World) (d : D) (name : Str) (f : Value) : Prop := ∀ {A : Around} {R : Heap} {s : Shared} {v : Value} {pl : Sem Bool} {Q : Value × List Value → Shared → Prop} {E : Value → Shared → Prop},
  Le R s.heap → Rep w R d v → Q (f, [v]) s → wpAny (MM w) A (getMethod v name pl) Q E s

theorem ev_method {o : PySem.Expr} {name : Str} {apos pos : Pos} {args : List PySem.Expr} {f : Value} {d₀ d : D} {ds : List D} (h₁ : Ev w k sc σ o d₀ σ₁) (hm : Meth w d₀ name f) (ok : CallOk w f) (ha : Evs w k sc σ₁ args ds σ')
    (ho : OpL w k (fun vs => call f vs) (d₀ :: ds) d) (hp : Plain args := by intro _ _; rfl)
    (he : ∀ sc F, ∃ pl, eval (.Call (.Attribute o name apos) args [] pos) (mkEnv sc F) = (do
      let ov ← eval o (mkEnv sc F)
      standAt apos.atName
      let (f, first) ← holding [ov] (getMethod ov name pl)
      callWith pos f first (backTo pos (starEach args (mkEnv sc F))) []) := by intro _ _; exact ⟨_, rfl⟩) :
    Ev w k sc σ (.Call (.Attribute o name apos) args [] pos) d σ' := fun A F h₀ R s rm S => by
  obtain ⟨pl, he⟩ := he sc F
  refine MethodCall_ (pl := pl) (wp_then (h₁ A F h₀ R s rm S) fun v R₁ s₁ st₁ S₁ q₁ => hm S₁.ext q₁ ?_) he
  refine ok (hp _ _) (wp_then (ha pos A F h₀ R₁ s₁ rm S₁) fun vs R₂ s₂ st₂ S₂ q₂ => ⟨(S₂.cx rm).base.k, ?_⟩)
  exact wp_from (st₁.trans st₂) (S₂.gives (ho A R₂ s₂ (v :: vs) (S₂.cx rm) (.cons (q₁.mono st₂.le) q₂)))

/-! displays -/
theorem evN_list {es : List PySem.Expr} {pos : Pos} {ds : List D} (h : Evs w k sc σ es ds σ') (hz : ds.length ≤ sizeLine := by simp [sizeLine]) : EvN w k sc σ (.List es pos) (.list ds) σ' := fun A F h₀ R s rm S =>
  List_ (wp_then (h pos A F h₀ R s rm S) fun vs R₁ s₁ st₁ S₁ q₁ => by
    have n := get_size s₁.heap
    refine wpAny_newList ⟨R₁, s₁.heap.objs.size, st₁.trans .heap, S₁.push _, rfl, .list (n := 0) (Heap.get?_push_size _ rfl) q₁, S₁.off_new n, ?_⟩ (by rw [q₁.length]; exact hz)
    intro m x e hn hx hat
    have S₂ := S₁.push (t := s₁.toks) { cls := .type "list", data := .seq vs.toArray }
    exact S₁.notOwn n (by
      obtain ⟨m', V⟩ := S₁.vars
      have := (S₂.vars)
      obtain ⟨o, es', ep, e1, e2⟩ := V.ns
      have hL := Heap.get?_push_of_some (h := s₁.heap) ({ cls := .type "list", data := .seq vs.toArray } : Obj) e1
      obtain ⟨o', es'', ep', f1, f2, f3⟩ := hn
      rw [hL] at f1; cases f1
      exact ⟨o, es'', ep', e1, f2, f3⟩) hx (At.bwd S₁.cells.is (fun _ c v _ i => i.keeps fun b o e => Heap.get?_push_of_some _ e) hat))
theorem ev_of_N {e : PySem.Expr} {d : D} (h : EvN w k sc σ e d σ') : Ev w k sc σ e d σ' := fun A F h₀ R s rm S => by
    refine wpAny_mono (h A F h₀ R s rm S) ?_ fun _ _ e => e
    rintro v s' ⟨R', a, st, S', rfl, o, O, no⟩
    obtain ⟨ob, hob⟩ := o.isSome
    refine ⟨addR R' s'.heap a, ⟨st.le.trans (addR_le S'.ext a), fun b o e => ((addR_get S'.ext).mp e).elim (st.new b o) fun ⟨q, _⟩ => .inr (q ▸ O.h), st.same⟩, ?_, o.rep (fun ob e => addR_self S'.ext e) (addR_le S'.ext a)⟩
    obtain ⟨m, V⟩ := S'.vars
    have nr : ∀ {b}, b ≠ a → R'.get? b = none → (addR R' s'.heap a).get? b = none := fun {b} ne e => none_of fun o z => ((addR_get S'.ext).mp z).elim (fun z => nomatch e.symm.trans z) fun ⟨z, _⟩ => ne z
    refine { S' with ext := addR_ext _ _ _, roff := fun f hf => nr (fun z => O.p (z ▸ hf)) (S'.roff f hf), lr := nr O.l.symm S'.lr, cells := { S'.cells with r := fun y c e => nr (O.c y c e) (S'.cells.r y c e) }, vars := ⟨m, V.ns, fun x sl q => ?_, fun x d b q i => ?_, V.apart⟩ }
    · obtain ⟨u, j, k⟩ := V.at_ x sl q
      refine ⟨u, j, ?_⟩
      cases k with
      | fz r => exact .fz (r.mono (addR_le S'.ext a))
      | own o' => exact .own (o'.same (fun _ e => e) (addR_le S'.ext a))
    · exact { V.off x d b q i with r := nr (fun z => no m x d V.ns q (z ▸ i)) (V.off x d b q i).r }
theorem ev_list {es : List PySem.Expr} {pos : Pos} {ds : List D} (h : Evs w k sc σ es ds σ') (hz : ds.length ≤ sizeLine := by simp [sizeLine]) : Ev w k sc σ (.List es pos) (.list ds) σ' := ev_of_N (evN_list h hz)
theorem ev_tuple {es : List PySem.Expr} {n : Nat} {pos : Pos} {ds : List D} (h : Evs w k sc σ es ds σ') (hz : ds.length ≤ sizeLine := by simp [sizeLine]) : Ev w k sc σ (.Tuple es n pos) (.tup ds) σ' := fun A F h₀ R s rm S =>
  Tuple_ (wp_then (h pos A F h₀ R s rm S) fun vs R₁ s₁ st₁ S₁ q₁ => by
    have n := get_size s₁.heap
    have l := Le.push s₁.heap { cls := .type "tuple", data := .seq vs.toArray }
    exact wpAny_newTuple ⟨_, st₁.trans (Step.pushR (t := s₁.toks) (d := s₁.drawn) S₁ l n), S₁.pushR l n, .tup ⟨_, addR_self (S₁.ext.trans l) (Heap.get?_push_size _ rfl), rfl, 0, rfl⟩ (q₁.mono (addR_le (S₁.ext.trans l) _))⟩ (by rw [q₁.length]; exact hz))

/-! stores -/
noncomputable def Asg (w : World) (k : Nat) (sc : Scope) (fn : Prop) (σ : St) (t : PySem.Expr) (d : D) (σ' : St) : Prop :=
  ∀ A F h₀ R s v, (fn → F.fn.isSome = true) → Fresh F h₀ → Room k A → Sat w A sc F h₀ σ R s → Rep w R d v →
    wpAny (MM w) A (assign t (mkEnv sc F) v) (fun _ s' => ∃ R', Step h₀ R R' s s' ∧ Sat w A sc F h₀ σ' R' s') (fun _ _ => False) s

theorem store_local {x : Str} {d : D} {v : Value} (S : Sat w A sc F h₀ σ R s) (lh : Fresh F h₀) (r : Rep w R d v) (hx : sc.names.lookup x = some .local) (hk : sc.kind = .function) :
    wpAny (MM w) A (storeName (mkEnv sc F) x v) (fun _ s' => ∃ R', Step h₀ R R' s s' ∧ Sat w A sc F h₀ (put σ x (.fz d)) R' s') (fun _ _ => False) s := by
  obtain ⟨m, V⟩ := S.vars
  exact wpAny_storeName_local hx V.ns (fun h' hn hs => ⟨R, .heap, S.storeL lh.L hx V.ns hn hs (.fz r) fun d a e => by cases e⟩)
    (by show (sc.kind == .class || (sc.kind == .module && F.L != mainGlobals)) = false; rw [hk]; rfl)
theorem store_cell {x : Str} {d : D} {v : Value} (S : Sat w A sc F h₀ σ R s) (hfn : F.fn.isSome = true) (lh : Fresh F h₀) (r : Rep w R d v) (hx : sc.names.lookup x = some .cell) (hk : sc.kind = .function) :
    wpAny (MM w) A (storeName (mkEnv sc F) x v) (fun _ s' => ∃ R', Step h₀ R R' s s' ∧ Sat w A sc F h₀ (put σ x (.fz d)) R' s') (fun _ _ => False) s := by
  obtain ⟨c, hc⟩ := S.has x hx
  obtain ⟨v₀, hv⟩ := S.cells.is x c hc
  exact wpAny_storeName_cell hk hx hc hv fun h' hn hs => ⟨R, .heap, S.storeC (t := s.toks) hfn lh hx hc hn hs r⟩
theorem asg_local {x : Str} {p : Pos} {d : D} (hx : sc.names.lookup x = some .local) (hk : sc.kind = .function := by rfl) : Asg w k sc fn σ (.Name x p) d (put σ x (.fz d)) := fun A F h₀ R s v _ lh _ S r =>
  wpAny_bind (wpAny_standAt (wpAny_bindName (store_local S lh r hx hk)))
theorem asg_cell {x : Str} {p : Pos} {d : D} (hx : sc.names.lookup x = some .cell) (hk : sc.kind = .function := by rfl) : Asg w k sc True σ (.Name x p) d (put σ x (.fz d)) := fun A F h₀ R s v hf lh _ S r =>
  wpAny_bind (wpAny_standAt (wpAny_bindName (store_cell S (hf trivial) lh r hx hk)))

/-- targets in order -/
inductive Asgs (w : World) (k : Nat) (sc : Scope) (fn : Prop) : St → List PySem.Expr → List D → St → Prop
  | nil (σ : St) : Asgs w k sc fn σ [] [] σ
  | cons {σ σ₁ σ' : St} {t : PySem.Expr} {ts : List PySem.Expr} {d : D} {ds : List D} : Asg w k sc fn σ t d σ₁ → Asgs w k sc fn σ₁ ts ds σ' → Asgs w k sc fn σ (t :: ts) (d :: ds) σ'
theorem Asgs.run {ts : List PySem.Expr} {ds : List D} (h : Asgs w k sc fn σ ts ds σ') : ∀ {A F h₀ R s vs}, (fn → F.fn.isSome = true) → Fresh F h₀ → Room k A → Sat w A sc F h₀ σ R s → RepL w R ds vs →
    wpAny (MM w) A (assignInOrder (ts.map fun t => assign t (mkEnv sc F)) vs) (fun _ s' => ∃ R', Step h₀ R R' s s' ∧ Sat w A sc F h₀ σ' R' s') (fun _ _ => False) s := by
  induction h with
  | nil => intro A F h₀ R s vs _ _ _ S r; cases r; exact wpAny_pure ⟨R, .refl .., S⟩
  | cons a _ ih =>
    intro A F h₀ R s vs hf lh rm S r
    replace r := r.cons_inv
    obtain ⟨_, _, rfl, r, rs⟩ := r
    exact wpAny_bind (wpAny_holding (wpAny_mono (a A F h₀ R s _ hf lh rm S r) (fun _ s' ⟨R', st, S'⟩ => wpAny_mono (ih hf lh rm S' (rs.mono st.le)) (fun _ _ ⟨R'', st', S''⟩ => ⟨R'', st.trans st', S''⟩) fun _ _ e => e) fun _ _ e => e))
theorem asg_tuple {ts : List PySem.Expr} {n : Nat} {p : Pos} {ds : List D} (h : Asgs w k sc fn σ ts ds σ') (hl : ts.length = ds.length := by rfl)
    (he : ∀ env, (assignEach ts env) = ts.map fun t => (false, assign t env) := by intro _; rfl) : Asg w k sc fn σ (.Tuple ts n p) (.tup ds) σ' := fun A F h₀ R s v hf lh rm S r => by
  replace r := r.tup_inv
  obtain ⟨a, vs, rfl, ht, rs⟩ := r
  show wpAny (MM w) A (do standAt p; unpack (.ref a) (assignEach ts (mkEnv sc F))) _ _ s
  refine wpAny_bind (wpAny_standAt ?_)
  rw [he]
  refine wpAny_unpack_tuple rm.h (isTuple_mono S.ext ht) (by simp [hl, rs.length]) (by simp) fun h' ex => ?_
  have l : Le s.heap h' := fun b o e => ex b o (fun q => absurd (Heap.lt_size e) (q ▸ Nat.lt_irrefl _)) e
  have S' : Sat w A sc F h₀ σ R { s with heap := h' } := S.keep l
  have := h.run hf lh rm S' rs
  simp only [List.map_map]
  exact wpAny_mono this (fun _ _ ⟨R', st, S'⟩ => ⟨R', Step.trans ⟨.refl R, fun _ _ e => .inl e, h', s.toks, s.drawn, rfl⟩ st, S'⟩) fun _ _ e => e

/-! statements -/
theorem exs_cons {st : Stmt} {rest : List Stmt} {f : Fl} (h : Ex w k sc σ st .next σ₁) (hr : Exs w k sc σ₁ rest f σ') : Exs w k sc σ (st :: rest) f σ' := fun A F h₀ R s hf lh rm S =>
  wpAny_execs_cons (wpAny_mono (h A F h₀ R s hf lh rm S) (fun fl s' ⟨R', st, S', q⟩ => by cases q; exact wp_from st (hr A F h₀ R' s' hf lh rm S')) fun _ _ e => e)
theorem exs_stop {st : Stmt} {rest : List Stmt} {f : Fl} (h : Ex w k sc σ st f σ') (hf : f ≠ .next) : Exs w k sc σ (st :: rest) f σ' := fun A F h₀ R s hfn lh rm S =>
  wpAny_execs_cons (wpAny_mono (h A F h₀ R s hfn lh rm S) (fun fl s' ⟨R', st, S', q⟩ => by
    cases q with
    | next => exact (hf rfl).elim
    | brk => exact ⟨R', st, S', .brk⟩
    | cont => exact ⟨R', st, S', .cont⟩
    | ret r => exact ⟨R', st, S', .ret r⟩) fun _ _ e => e)
theorem exs_freeze (x : Str) {d : D} {sts : List Stmt} {f : Fl} (q : σ.lookup x = some (.own d)) (h : Exs w k sc (put σ x (.fz d)) sts f σ') : Exs w k sc σ sts f σ' := fun A F h₀ R s hf lh rm S => by
  obtain ⟨R', st, S'⟩ := S.freeze q
  exact wp_from st (h A F h₀ R' s hf lh rm S')
theorem ex_assign {x : Str} {p pos : Pos} {value : PySem.Expr} {d : D} (h : Ev w k sc σ value d σ₁) (ha : Asg w k sc True σ₁ (.Name x p) d σ')
    (hs : ∀ sc F, swapsWith value (some (.Name x p)) pos.line (mkEnv sc F) = pure false := by intro _ _; rfl) : Ex w k sc σ (.Assign [.Name x p] value pos) .next σ' := fun A F h₀ R s hf lh rm S => by
  rw [exec_Assign_Name _ _ _ _ _ (hs _ _)]
  refine wpAny_bind (wpAny_standAt (wpAny_bind (wp_then (h A F h₀ R s rm S) fun v R₁ s₁ st₁ S₁ q₁ => ?_)))
  show wpAny (MM w) A (assign (.Name x p) (mkEnv sc F) v >>= fun _ => (pure Flow.next : Sem Flow)) _ _ s₁
  exact wpAny_bind (wpAny_mono (ha A F h₀ R₁ s₁ v (fun _ => hf) lh rm S₁ q₁) (fun _ s₂ ⟨R₂, st₂, S₂⟩ => wpAny_pure ⟨R₂, st₁.trans st₂, S₂, .next⟩) fun _ _ e => e.elim)
theorem ex_return {e : PySem.Expr} {pos : Pos} {d : D} (h : Ev w k sc σ e d σ') : Ex w k sc σ (.Return (some e) pos) (.ret d) [] := fun A F h₀ R s hf lh rm S =>
  wpAny_Return_some (wp_then (h A F h₀ R s rm S) fun v R₁ s₁ st₁ S₁ q₁ => ⟨R₁, st₁, S₁.weaken (fun _ _ h => by cases h), .ret q₁⟩)
theorem ex_if {t : PySem.Expr} {body orelse : List Stmt} {pos : Pos} {b : Bool} {f : Fl} (ht : Tr w k sc σ t b σ₁) (hb : b = true → Exs w k sc σ₁ body f σ') (he : b = false → Exs w k sc σ₁ orelse f σ') : Ex w k sc σ (.If t body orelse pos) f σ' := fun A F h₀ R s hf lh rm S =>
  wpAny_If (wp_then (ht A F h₀ R s rm S) fun c R₁ s₁ st₁ S₁ q₁ => by
    subst q₁
    cases c with
    | true => exact wp_from st₁ (hb rfl A F h₀ R₁ s₁ hf lh rm S₁)
    | false => exact wp_from st₁ (he rfl A F h₀ R₁ s₁ hf lh rm S₁))
end
end Mine
end

noncomputable section
open PySem PySem.W PyProof.Rows
namespace Mine

/-- the def number i of the text stands at f -/
structure FnAt (w : World) (f : Addr) (i : Nat) (fd : FuncData) : Prop where
  k : ∃ oc od osl, (KK w).lookup f = some ⟨oc, od, .func fd, osl⟩
  body : fd.body = .stmts (defBody i)
  scope : fd.scope = defScope i
  closure : fd.closure = []
  globals : fd.globals = mainGlobals
  builtins : fd.builtins = builtinsNs
  code : codeIn (KK w) fd.code fd.qualname = true
  keep : keepIn (KK w) (.ref f) = true

section
variable {kindOf : Str → Option NameKind}
theorem bindL_other {x : Str} : ∀ (binds : List (Str × Value)) (m : Str → Option Value), x ∉ binds.map (·.1) → bindL kindOf binds m x = m x
  | [], _, _ => rfl
  | (n, v) :: r, m, h => by
    simp only [List.map_cons, List.mem_cons, not_or] at h
    unfold bindL
    rw [bindL_other r _ h.2]
    split
    · simp [h.1]
    · rfl
theorem bindC_other {x : Str} : ∀ (binds : List (Str × Value)) (m : Str → Option Value), x ∉ binds.map (·.1) → bindC kindOf binds m x = m x
  | [], _, _ => rfl
  | (n, v) :: r, m, h => by
    simp only [List.map_cons, List.mem_cons, not_or] at h
    unfold bindC
    rw [bindC_other r _ h.2]
    split
    · rfl
    · simp [h.1]
theorem bindL_get {x : Str} {v : Value} (hk : kindOf x = some .local) : ∀ (binds : List (Str × Value)) (m : Str → Option Value), (binds.map (·.1)).Nodup → (x, v) ∈ binds → bindL kindOf binds m x = some v
  | (n, u) :: r, m, hn, h => by
    simp only [List.map_cons, List.nodup_cons] at hn
    unfold bindL
    rcases List.mem_cons.mp h with e | h
    · cases e
      rw [bindL_other r _ hn.1, if_pos hk]; simp
    · exact bindL_get hk r _ hn.2 h
theorem bindC_get {x : Str} {v : Value} (hk : kindOf x ≠ some .local) : ∀ (binds : List (Str × Value)) (m : Str → Option Value), (binds.map (·.1)).Nodup → (x, v) ∈ binds → bindC kindOf binds m x = some v
  | (n, u) :: r, m, hn, h => by
    simp only [List.map_cons, List.nodup_cons] at hn
    unfold bindC
    rcases List.mem_cons.mp h with e | h
    · cases e
      rw [bindC_other r _ hn.1, if_neg hk]; simp
    · exact bindC_get hk r _ hn.2 h
end

theorem mem_of_lk {x : Str} {sl : Slot} : ∀ l : St, l.lookup x = some sl → (x, sl) ∈ l
  | p :: l, e => by
    rw [List.lookup_cons] at e
    cases hb : x == p.1 with
    | true => rw [hb] at e; cases e; rw [beq_iff_eq] at hb; rw [hb]; exact List.mem_cons_self
    | false => rw [hb] at e; exact List.mem_cons_of_mem _ (mem_of_lk l e)

/-- the names of a def as the call binds them -/
noncomputable def bound (ps : List Str) (ds : List D) : St := (ps.zip ds).map fun p => (p.1, .fz p.2)

theorem bound_at {w : World} {R : Heap} : ∀ {ps : List Str} {ds : List D} {vs : List Value}, RepL w R ds vs → ps.length = ds.length → ∀ {x : Str} {sl : Slot}, (x, sl) ∈ bound ps ds → ∃ d v, sl = .fz d ∧ (x, v) ∈ ps.zip vs ∧ Rep w R d v
  | [], _, _, _, _, _, _, h => by simp [bound] at h
  | p :: ps, _, _, .nil, hl, _, _, _ => by simp at hl
  | p :: ps, _, _, .cons r rs, hl, x, sl, h => by
    simp only [bound, List.zip_cons_cons, List.map_cons, List.mem_cons] at h
    rcases h with e | h
    · cases e; exact ⟨_, _, rfl, by simp, r⟩
    · obtain ⟨d, v, a, b, c⟩ := bound_at rs (by simpa using hl) (x := x) (sl := sl) h
      exact ⟨d, v, a, by simp [b], c⟩

section
variable {w : World} {k : Nat} {R : Heap}

theorem cellsFrom_names {x : Str} {c : Addr} : ∀ (names : List (Str × NameKind)) (n : Nat) (acc : List (Str × Addr)), (cellsFrom n names acc).lookup x = some c → (x, NameKind.cell) ∈ names ∨ acc.lookup x = some c
  | [], _, _, h => .inr h
  | (y, kd) :: r, n, acc, h => by
    unfold cellsFrom at h
    split at h
    · rename_i hk
      rcases cellsFrom_names r _ _ h with h | h
      · exact .inl (List.mem_cons_of_mem _ h)
      · rw [List.lookup_cons] at h
        cases hb : x == y with
        | true =>
          rw [beq_iff_eq] at hb hk; subst hb; subst hk
          exact .inl List.mem_cons_self
        | false => rw [hb] at h; exact .inr h
    · exact (cellsFrom_names r _ _ h).imp (List.mem_cons_of_mem _) id

/-- a def's contract, from its body -/
theorem contract_bindsT {f : Addr} {i : Nat} {fd : FuncData} {args : List D} {d : D} (X : FnAt w f i fd) (ps : List Str) (ds : List D)
    (hbind : ∀ {A : Around} {R : Heap} {s : Shared} {vs : List Value} {Q : List (Str × Value) → Shared → Prop}, Cx w k A R s → RepL w R args vs →
      (∀ us R' s', Mv A R R' s s' → RepL w R' ds us → Q (ps.zip us) s') → wpAny (MM w) A (bindArgs fd ⟨vs, []⟩) Q (fun _ _ => False) s)
    (hl : ps.length = ds.length) (hnd : ps.Nodup) (hk : (ps.all fun x => (defScope i).names.lookup x == some .local || (defScope i).names.lookup x == some .cell) = true)
    (hf : (defScope i).kind = .function ∧ (defScope i).isCoroutine = false ∧ (defScope i).isGenerator = false)
    (h : ExsT w k (defScope i) (bound ps ds) (defBody i) (.ret d) []) : Contract w (k + 1) (.ref f) args d := by
  intro A R s vs rm fr B ext roff rep
  obtain ⟨oc, od, osl, hK⟩ := X.k
  have cx : Cx w k A.in1 R s := ⟨rm.in1, fr, B, ext, roff⟩
  refine codeAny_call_function rm.lt (B.k _ _ hK) rfl (by rw [X.scope]; exact hf.2.1) (by rw [X.scope]; exact hf.2.2) X.body (codeRec_of B.k X.code) ?_
  refine wpAny_mono (hbind cx rep (Q := fun binds s₁ => wpAny (MM w) A.in1 (newFunctionEnv fd.scope fd.globals fd.closure binds (fd.qualname ++ ".<locals>.") (some f) fd.code none fd.builtins)
        (fun env s₂ => s₂.heap.NoLimit ∧ codeAny (MM w) A (.func (defBody i) env) _ s₂) (fun _ _ => False) s₁) ?_) (fun binds s₁ h => wpAny_mono h (fun _ _ h => h) fun _ _ e => e.elim) fun _ _ e => e.elim
  intro us R₁ s₁ mv rep₁
  have cx₁ : Cx w k A.in1 R₁ s₁ := cx.mv mv
  have lz : (ps.zip us).map (·.1) = ps := by rw [List.map_fst_zip]; rw [rep₁.length]; omega
  have hkb : ∀ x ∈ ps.zip us, (defScope i).names.lookup x.1 = some .local ∨ ((defScope i).names.lookup x.1 = some .cell) := fun x hx => by
    have := List.all_eq_true.mp hk x.1 (List.of_mem_zip hx).1
    rcases Bool.or_eq_true_iff.mp this with q | q
    · exact .inl (by simpa using q)
    · exact .inr (by simpa using q)
  rw [X.scope, X.closure, X.globals, X.builtins]
  refine wpAny_newFunctionEnv_cells hf.1 (fun x hx => (hkb x hx).imp id fun q => ⟨q, cellsFrom_some _ _ _ (.inl q)⟩) fun env he s₂ ic => ?_
  have hLh : s₁.heap.objs.size ≤ env.locals := ic.toInCall.fresh
  obtain ⟨h₂, t₂, e₂⟩ := ic.toInCall.same
  have keep := ic.toInCall.keep
  let F : FrS := ⟨env.locals, env.cells, fd.qualname ++ ".<locals>.", some f, fd.code, some env.locals⟩
  have eE : env = mkEnv (defScope i) F := by
    have : env.locals = s₁.heap.objs.size := by rw [he]; rfl
    have : env.cells = cellsFrom (s₁.heap.objs.size + 1) (defScope i).names [] := by rw [he]; rfl
    simp only [F, mkEnv, *]; rfl
  refine ⟨cx₁.base.lim.keeps keep, codeAny_func ?_⟩
  have old : ∀ {b o}, s₁.heap.get? b = some o → b < env.locals := fun e => Nat.lt_of_lt_of_le (Heap.lt_size e) hLh
  have nL : s₁.heap.get? env.locals = none := none_of fun o e => absurd (old e) (Nat.lt_irrefl _)
  have frsA : ∀ {g}, g ∈ frs (A.deeper env) → g = env.locals ∨ g ∈ frs A := fun {g} hg => by
    have hfr : env.frame = some env.locals := by rw [eE]; rfl
    replace hg : g ∈ ((A.frames.map (env :: ·)).getD []).filterMap (·.frame) := hg
    unfold frs
    cases hA : A.frames with
    | none => rw [hA] at hg; cases hg
    | some envs =>
      rw [hA] at hg
      obtain ⟨e', he', hq⟩ := List.mem_filterMap.mp hg
      rcases List.mem_cons.mp he' with rfl | he'
      · rw [hfr] at hq; cases hq; exact .inl rfl
      · exact .inr (List.mem_filterMap.mpr ⟨e', he', hq⟩)
  have cn : ∀ {x c}, env.cells.lookup x = some c → s₁.heap.get? c = none := fun {x c} e => none_of fun o z => absurd (old z) (Nat.lt_asymm (ic.above x c (mem_of_lookup e)))
  have S : Sat w (A.deeper env) (defScope i) F s₁.heap (bound ps ds) R₁ s₂ := by
    refine { fr := ?_, base := ?_, old := .of_le keep, ext := cx₁.ext.trans keep, roff := ?_, lr := none_of fun o e => (nomatch nL.symm.trans (cx₁.ext _ _ e)), cells := ?_, has := ?_, vars := ⟨_, ic.toInCall.ns, ?_, ?_, ?_⟩ }
    · intro envs' hA' e he'
      have hA' : A.frames.map (env :: ·) = some envs' := hA'
      cases hA : A.frames with
      | none => rw [hA] at hA'; cases hA'
      | some envs =>
      rw [hA] at hA'; cases hA'
      rcases List.mem_cons.mp he' with rfl | he'
      · obtain ⟨o, es, ep, a, b, _⟩ := ic.toInCall.ns
        refine ⟨by rw [eE]; show (defScope i).kind ≠ .module; rw [hf.1]; decide, e.locals, o, es, ep, by rw [eE]; rfl, a, b⟩
      · obtain ⟨k, f, o, es, ep, a, b, c⟩ := fr envs hA e he'
        obtain ⟨_, o', e', d'⟩ := mv.pres f o b
        exact ⟨k, f, o', es, ep, a, keep _ _ e', d'.trans c⟩
    · refine { cx₁.base with kp := fun a o e => ?_ }
      exact fun q => (frsA q).elim (fun q => absurd (old (cx₁.base.k a o e)) (q ▸ Nat.lt_irrefl _)) (cx₁.base.kp a o e)
    · intro g hg
      rcases frsA hg with rfl | hg
      · exact none_of fun o e => nomatch nL.symm.trans (cx₁.ext _ _ e)
      · exact cx₁.roff g hg
    · refine ⟨fun x c e => ⟨_, ic.cell x c e⟩, fun x c e => none_of fun o z => (nomatch (cn e).symm.trans (cx₁.ext _ _ z)), fun x c e => Nat.ne_of_gt (ic.above x c (mem_of_lookup e)), fun x c e => ?_,
        fun x y c e e' => name_of_addr ic.apart (mem_of_lookup e) (mem_of_lookup e')⟩
      refine fun q => (frsA q).elim (fun q => Nat.ne_of_gt (ic.above x c (mem_of_lookup e)) q) fun q => ?_
      obtain ⟨o, ho⟩ := cx₁.fr.isSome q
      exact nomatch (cn e).symm.trans ho
    · intro x hx
      have : env.cells = cellsFrom (s₁.heap.objs.size + 1) (defScope i).names [] := by rw [he]; rfl
      have := cellsFrom_some (x := x) (defScope i).names (s₁.heap.objs.size + 1) [] (.inl hx)
      show ∃ c, env.cells.lookup x = some c
      rename_i q
      rw [q]
      exact Option.isSome_iff_exists.mp this
    · intro x sl e
      obtain ⟨d', v, e1, e2, e3⟩ := bound_at rep₁ hl (mem_of_lk _ e)
      subst e1
      have kd : env.kindOf x = (defScope i).names.lookup x := by rw [eE]; rfl
      refine ⟨v, ?_, .fz e3⟩
      rcases hkb _ e2 with q | q
      · exact .loc q (bindL_get (by rw [kd]; exact q) _ _ (by rw [lz]; exact hnd) e2)
      · have hc : env.cells = cellsFrom (s₁.heap.objs.size + 1) (defScope i).names [] := by rw [he]; rfl
        have := cellsFrom_some (x := x) (defScope i).names (s₁.heap.objs.size + 1) [] (.inl q)
        obtain ⟨c, hcx⟩ := Option.isSome_iff_exists.mp this
        rw [← hc] at hcx
        refine .cel q hcx ?_
        have := ic.cell x c hcx
        rwa [bindC_get (by rw [kd, q]; simp) _ _ (by rw [lz]; exact hnd) e2] at this
    · intro x d' a e
      obtain ⟨d'', v, e1, _⟩ := bound_at rep₁ hl (mem_of_lk _ e)
      cases e1
    · intro x y d1 d2 a e
      obtain ⟨d'', v, e1, _⟩ := bound_at rep₁ hl (mem_of_lk _ e)
      cases e1
  have := h (A.deeper env) F s₁.heap R₁ s₂ rfl ⟨nL, fun _ x c e => cn e⟩ rm.deeper (fun q => by obtain ⟨envs, hA⟩ := Option.isSome_iff_exists.mp (rm.f (by omega)); exact ⟨envs, by rw [← eE]; show A.frames.map (env :: ·) = _; rw [hA]; rfl⟩) S
  rw [← eE] at this
  refine wpAny_mono this ?_ fun _ _ e => e.elim
  rintro fl s' ⟨R', st, S', q⟩
  cases q with
  | @ret _ v r =>
    refine ⟨v, R', rfl, ⟨mv.le.trans st.le, fun b o e => (st.new b o e).elim (fun e => mv.new b o e) fun n => .inr (none_of fun o z => by obtain ⟨_, o', e', _⟩ := mv.pres b o z; exact nomatch n.symm.trans e'), ?_⟩, ?_, S'.ext, r⟩
    · obtain ⟨a1, a2, a3, rfl⟩ := mv.same
      subst e₂
      obtain ⟨b1, b2, b3, rfl⟩ := st.same
      exact ⟨b1, b2, b3, rfl⟩
    · refine mv.pres.trans fun b o e => ?_
      obtain ⟨q1, q2⟩ := S'.old b o e
      refine ⟨fun n => q1 ?_, q2⟩
      exact fun q => (frsA q).elim (fun z => absurd (old e) (z ▸ Nat.lt_irrefl _)) n

theorem contract_binds {f : Addr} {i : Nat} {fd : FuncData} {args : List D} {d : D} (X : FnAt w f i fd) (ps : List Str) (ds : List D)
    (hbind : ∀ {A : Around} {R : Heap} {s : Shared} {vs : List Value} {Q : List (Str × Value) → Shared → Prop}, Cx w k A R s → RepL w R args vs →
      (∀ us R' s', Mv A R R' s s' → RepL w R' ds us → Q (ps.zip us) s') → wpAny (MM w) A (bindArgs fd ⟨vs, []⟩) Q (fun _ _ => False) s)
    (hl : ps.length = ds.length) (hnd : ps.Nodup) (hk : (ps.all fun x => (defScope i).names.lookup x == some .local || (defScope i).names.lookup x == some .cell) = true)
    (hf : (defScope i).kind = .function ∧ (defScope i).isCoroutine = false ∧ (defScope i).isGenerator = false)
    (h : Exs w k (defScope i) (bound ps ds) (defBody i) (.ret d) []) : Contract w (k + 1) (.ref f) args d :=
  contract_bindsT X ps ds hbind hl hnd hk hf fun A F h₀ R s hfn lh rm _ S => h A F h₀ R s hfn lh rm S

theorem contract_def {f : Addr} {i : Nat} {fd : FuncData} {args : List D} {d : D} (X : FnAt w f i fd) (ps : List Str)
    (hbind : ∀ vs : List Value, vs.length = ps.length → bindArgs fd ⟨vs, []⟩ = pure (ps.zip vs))
    (hl : ps.length = args.length) (hnd : ps.Nodup) (hk : (ps.all fun x => (defScope i).names.lookup x == some .local || (defScope i).names.lookup x == some .cell) = true)
    (hf : (defScope i).kind = .function ∧ (defScope i).isCoroutine = false ∧ (defScope i).isGenerator = false)
    (h : Exs w k (defScope i) (bound ps args) (defBody i) (.ret d) []) : Contract w (k + 1) (.ref f) args d :=
  contract_binds X ps args (fun {A R s vs Q} cx rep hq => by
    rw [hbind vs (by rw [rep.length]; exact hl.symm)]
    exact wpAny_pure (hq vs R s (.refl cx) rep)) hl hnd hk hf h

theorem contract_defT {f : Addr} {i : Nat} {fd : FuncData} {args : List D} {d : D} (X : FnAt w f i fd) (ps : List Str)
    (hbind : ∀ vs : List Value, vs.length = ps.length → bindArgs fd ⟨vs, []⟩ = pure (ps.zip vs))
    (hl : ps.length = args.length) (hnd : ps.Nodup) (hk : (ps.all fun x => (defScope i).names.lookup x == some .local || (defScope i).names.lookup x == some .cell) = true)
    (hf : (defScope i).kind = .function ∧ (defScope i).isCoroutine = false ∧ (defScope i).isGenerator = false)
    (h : ExsT w k (defScope i) (bound ps args) (defBody i) (.ret d) []) : Contract w (k + 1) (.ref f) args d :=
  contract_bindsT X ps args (fun {A R s vs Q} cx rep hq => by
    rw [hbind vs (by rw [rep.length]; exact hl.symm)]
    exact wpAny_pure (hq vs R s (.refl cx) rep)) hl hnd hk hf h

/-- a contract, seen from a call -/
theorem Contract.op {f : Value} {args : List D} {d : D} (h : Contract w k f args d) : OpL w k (fun vs => call f vs) args d := fun A R s vs cx rep =>
  wpAny_call (codeAny_mono (h A R s vs cx.room cx.fr cx.base cx.ext cx.roff rep) fun r s' ⟨v, R', e, st, p, l, q⟩ => by
    subst e; exact ⟨R', ⟨st.le, st.new, p, l, st.same⟩, q⟩)
theorem OpL.le {j : Nat} {t : List Value → Sem Value} {ds : List D} {d : D} (h : OpL w j t ds d) (l : j ≤ k) : OpL w k t ds d := fun A R s vs cx rep => h A R s vs (cx.le l) rep
end
end Mine
end

noncomputable section
open PySem PySem.W PyProof.Rows
namespace Mine

/-- what an iterator writes: apart from all that the frame knows -/
structure OffW (A : Around) (F : FrS) (h₀ : Heap) (wr : List Addr) : Prop where
  h : ∀ a ∈ wr, h₀.get? a = none
  l : ∀ a ∈ wr, a ≠ F.L
  c : ∀ a ∈ wr, ∀ y c, F.cl.lookup y = some c → c ≠ a
  p : ∀ a ∈ wr, a ∉ frs A
structure DynW (sc : Scope) (F : FrS) (σ : St) (R h : Heap) (wr : List Addr) : Prop where
  r : ∀ a ∈ wr, R.get? a = none
  live : ∀ a ∈ wr, ∃ o, h.get? a = some o
  own : ∀ a ∈ wr, ∀ m x d, h.Ns F.L m → σ.lookup x = some (.own d) → ¬ At sc F h m x (.ref a)

/-- an iterator at I, that hands on the data ds -/
structure IterAt (w : World) (A : Around) (target : PySem.Expr) (R : Heap) (I : Addr) (wr ro : List Addr) (n : Nat) (ds : Nat → D) (St : Nat → Heap → Prop) (Mid : Nat → Value → Heap → Prop) : Prop where
  frame : ∀ {i h h'}, St i h → (∀ b ∈ wr, ∀ o, h.get? b = some o → h'.get? b = some o) → (∀ b ∈ ro, h'.get? b = h.get? b) → Le R h → Le R h' → St i h'
  item : ∀ {i : Nat} {s : Shared} {R' : Heap} {Q : Option Value → Shared → Prop} {E : Value → Shared → Prop}, i < n → Le R R' → Le R' s.heap → FR A s.heap → St i s.heap →
    (∀ v R'' h' tk, Le R' R'' → (∀ b o, R''.get? b = some o → R'.get? b = some o ∨ s.heap.get? b = none) → Le R'' h' → (∀ b o, b ∉ wr → s.heap.get? b = some o → h'.get? b = some o) →
      (∀ a ∈ wr, R''.get? a = none) → Rep w R'' (ds i) v → Mid i v h' → Q (some v) { s with heap := h', toks := tk }) → (∀ a ∈ wr, R'.get? a = none) → wpAny (MM w) A (pyNext (.ref I)) Q E s
  go : ∀ {i : Nat} {v : Value} {s : Shared} {Q : Unit → Shared → Prop} {E : Value → Shared → Prop}, i < n → Mid i v s.heap →
    (∀ h' tk, St (i + 1) h' → (∀ b o, b ∉ wr → s.heap.get? b = some o → h'.get? b = some o) → Q () { s with heap := h', toks := tk }) → wpAny (MM w) A (letOwnedTupleGo target (.ref I) v) Q E s
  done : ∀ {s : Shared} {Q : Option Value → Shared → Prop} {E : Value → Shared → Prop}, Le R s.heap → St n s.heap →
    (∀ h' tk, (∀ b o, b ∉ wr → s.heap.get? b = some o → h'.get? b = some o) → Q none { s with heap := h', toks := tk }) → wpAny (MM w) A (pyNext (.ref I)) Q E s
  self : ∀ {i : Nat} {s : Shared} {Q : Value → Shared → Prop} {E : Value → Shared → Prop}, St i s.heap → Q (.ref I) s → wpAny (MM w) A (pyIter (.ref I)) Q E s
  rest : (∀ it v, letOwnedTupleGo target it v = pure ()) → ∀ {i : Nat} {v : Value} {h : Heap}, Mid i v h → St (i + 1) h
  live : ∀ {i : Nat} {h : Heap}, St i h → ∀ b ∈ wr, ∃ o, h.get? b = some o
  mlive : ∀ {i : Nat} {v : Value} {h : Heap}, Mid i v h → ∀ b ∈ wr, ∃ o, h.get? b = some o

/-- an expression that is iterated over -/
noncomputable def Iters (w : World) (k : Nat) (sc : Scope) (σ : St) (target iter : PySem.Expr) (n : Nat) (ds : Nat → D) (σ' : St) : Prop :=
  ∀ A F h₀ R s, Room k A → Sat w A sc F h₀ σ R s →
    wpAny (MM w) A (eval iter (mkEnv sc F)) (fun x s₁ => wpAny (MM w) A (pyIter x) (fun it s₂ => ∃ R' I wr St Mid, it = .ref I ∧ Step h₀ R R' s s₂ ∧ Sat w A sc F h₀ σ' R' s₂ ∧
      IterAt w A target R' I wr [] n ds St Mid ∧ St 0 s₂.heap ∧ OffW A F h₀ wr ∧ DynW sc F σ' R' s₂.heap wr) (fun _ _ => False) s₁) (fun _ _ => False) s

section
variable {w : World} {k : Nat} {A : Around} {sc : Scope} {F : FrS} {h₀ R R' R'' h h' : Heap} {σ σ' σ₁ σ₂ σ₃ : St} {s s' s'' : Shared} {fn : Prop} {wr : List Addr}

/-- all stays but wr; of the frames the data -/
noncomputable def PresBut (P wr : List Addr) (h h' : Heap) : Prop := ∀ b o, b ∉ wr → h.get? b = some o → (b ∉ P → h'.get? b = some o) ∧ ∃ o', h'.get? b = some o' ∧ o'.data = o.data
theorem PresBut.of {P : List Addr} (p : ∀ b o, b ∉ wr → h.get? b = some o → h'.get? b = some o) : PresBut P wr h h' := fun b o n e => ⟨fun _ => p b o n e, o, p b o n e, rfl⟩
theorem ns_inj {L : Addr} {m m' : Str → Option Value} (hn : h.Ns L m) (hn' : h.Ns L m') : m = m' := by
  obtain ⟨o, es, ep, a1, a2, a3, a4⟩ := hn
  obtain ⟨o', es', ep', b1, b2, b3, b4⟩ := hn'
  rw [a1] at b1; cases b1; rw [a2] at b2; cases b2
  funext x; rw [← a4, ← b4]

/-- the heap grows, but for what the iterator writes -/
theorem Sat.growBut0 (S : Sat w A sc F h₀ σ R s) (O : OffW A F h₀ wr) (yo : ∀ a ∈ wr, ∀ m x d, s.heap.Ns F.L m → σ.lookup x = some (.own d) → ¬ At sc F s.heap m x (.ref a)) {t : Nat} {d : Drawn} (p : PresBut (frs A) wr s.heap h') (l : Le R R') (e : Le R' h')
    (n : ∀ b o, R'.get? b = some o → R.get? b = some o ∨ s.heap.get? b = none) :
    Sat w A sc F h₀ σ R' { s with heap := h', toks := t, drawn := d } ∧ (∀ a ∈ wr, ∀ m x d, h'.Ns F.L m → σ.lookup x = some (.own d) → ¬ At sc F h' m x (.ref a)) := by
  obtain ⟨m, V⟩ := S.vars
  have lw : F.L ∉ wr := fun q => O.l _ q rfl
  have nsL : h'.Ns F.L m := by
    obtain ⟨o, es, ep, a, b, c⟩ := V.ns
    obtain ⟨_, o', e', d'⟩ := p _ _ lw a
    exact ⟨o', es, ep, e', d'.trans b, c⟩
  have cel : ∀ y c v, F.cl.lookup y = some c → s.heap.IsCell c v → h'.IsCell c v := fun y c v e ⟨o, ho, hd⟩ => by
    obtain ⟨_, o', e', d'⟩ := p c o (fun q => O.c c q y c e rfl) ho
    exact ⟨o', e', d'.trans hd⟩
  have fw : ∀ {x v}, At sc F s.heap m x v → At sc F h' m x v := At.fwd cel
  have bw : ∀ {x v}, At sc F h' m x v → At sc F s.heap m x v := At.bwd S.cells.is cel
  refine ⟨{ fr := ?_, base := S.base, old := ?_, ext := e, roff := ?_, lr := ?_, cells := ?_, has := S.has, vars := ⟨m, nsL, ?_, ?_, ?_⟩ }, fun a ha m' x dd hn hx hat => ?_⟩
  · intro envs e env he
    obtain ⟨k, f, o, es, ep, a, b, c⟩ := S.fr envs e env he
    obtain ⟨_, o', e', d'⟩ := p f o (fun q => O.p f q (by unfold frs; rw [e]; exact List.mem_filterMap.mpr ⟨env, he, a⟩)) b
    exact ⟨k, f, o', es, ep, a, e', d'.trans c⟩
  · intro b o e
    obtain ⟨q1, o', q2, q3⟩ := S.old b o e
    have nb : b ∉ wr := fun q => nomatch (O.h b q).symm.trans e
    obtain ⟨r1, o'', r2, r3⟩ := p b o' nb q2
    exact ⟨fun np => (p b o nb (q1 np)).1 np, o'', r2, r3.trans q3⟩
  · exact fun f hf => none_of fun o q => (n f o q).elim (fun q => nomatch (S.roff f hf).symm.trans q) fun q => by
      obtain ⟨o, ho⟩ := S.fr.isSome hf; exact nomatch q.symm.trans ho
  · exact none_of fun o q => (n _ o q).elim (fun q => nomatch S.lr.symm.trans q) fun q => by
      obtain ⟨o, _, _, ho, _⟩ := V.ns; exact nomatch q.symm.trans ho
  · exact { is := fun x c e => let ⟨v, i⟩ := S.cells.is x c e; ⟨v, cel x c v e i⟩, r := fun x c e => none_of fun o q => (n c o q).elim (fun q => (nomatch (S.cells.r x c e).symm.trans q)) fun q => (by
      obtain ⟨v, o, ho, _⟩ := S.cells.is x c e; exact nomatch q.symm.trans ho), l := S.cells.l, p := S.cells.p, inj := S.cells.inj }
  · intro x sl q
    obtain ⟨v, a, ok⟩ := V.at_ x sl q
    refine ⟨v, fw a, ?_⟩
    cases ok with
    | fz r => exact .fz (r.mono l)
    | own o => exact .own (o.same (fun ob e => (p _ ob (fun z => yo _ z m x _ V.ns q a) e).1 (V.off x _ _ q a).p) l)
  · intro x d a q i
    have O' := V.off x d a q (bw i)
    refine ⟨O'.h, none_of fun o z => (n a o z).elim (fun z => (nomatch O'.r.symm.trans z)) fun z => ?_, O'.l, O'.c, O'.p⟩
    obtain ⟨v, a', ok⟩ := V.at_ x _ q
    have := At.inj a' (bw i); subst this
    cases ok with
    | own o => obtain ⟨o, ho⟩ := o.isSome; exact nomatch z.symm.trans ho
  · exact fun x y d e a q q' i i' => V.apart x y d e a q q' (bw i) (bw i')
  · have := ns_inj hn nsL
    subst this
    exact yo a ha m' x dd V.ns hx (bw hat)

theorem Sat.growBut (S : Sat w A sc F h₀ σ R s) (O : OffW A F h₀ wr) (Y : DynW sc F σ R s.heap wr) {t : Nat} {d : Drawn} (p : PresBut (frs A) wr s.heap h') (l : Le R R') (e : Le R' h')
    (n : ∀ b o, R'.get? b = some o → R.get? b = some o ∨ s.heap.get? b = none) :
    Sat w A sc F h₀ σ R' { s with heap := h', toks := t, drawn := d } ∧ ((∀ a ∈ wr, ∃ o, h'.get? a = some o) → (∀ a ∈ wr, R'.get? a = none) → DynW sc F σ R' h' wr) :=
  let ⟨S', yo⟩ := S.growBut0 (t := t) (d := d) O Y.own p l e n
  ⟨S', fun lv rw' => ⟨rw', lv, yo⟩⟩

theorem DynW.weaken (Y : DynW sc F σ R h wr) (q : ∀ x sl, σ'.lookup x = some sl → σ.lookup x = some sl) : DynW sc F σ' R h wr :=
  ⟨Y.r, Y.live, fun a ha m x d hn hx => Y.own a ha m x d hn (q _ _ hx)⟩

/-- a walk with the iterator locked -/
theorem run_locked {α : Type} {t : Sem α} {K : Heap → α → Prop} (S : Sat w A sc F h₀ σ R s) (O : OffW A F h₀ wr) (Y : DynW sc F σ R s.heap wr)
    (h : Sat w A sc F (lock h₀ s.heap (fun b => decide (b ∈ wr))) σ R s → wpAny (MM w) A t (fun v s' => ∃ R', Step (lock h₀ s.heap (fun b => decide (b ∈ wr))) R R' s s' ∧ Sat w A sc F (lock h₀ s.heap (fun b => decide (b ∈ wr))) σ' R' s' ∧ K R' v) (fun _ _ => False) s) :
    wpAny (MM w) A t (fun v s' => ∃ R', Step h₀ R R' s s' ∧ Sat w A sc F h₀ σ' R' s' ∧ DynW sc F σ' R' s'.heap wr ∧ (∀ b ∈ wr, ∀ o, s.heap.get? b = some o → s'.heap.get? b = some o) ∧ K R' v) (fun _ _ => False) s := by
  have S₀ := S.lock (fun b => decide (b ∈ wr)) fun a ha => by
    have ha : a ∈ wr := of_decide_eq_true ha
    exact Y.own a ha
  refine wpAny_mono (h S₀) ?_ fun _ _ e => e
  rintro v s' ⟨R', st, S', q⟩
  have lk : ∀ b ∈ wr, ∃ o, (lock h₀ s.heap (fun b => decide (b ∈ wr))).get? b = some o := fun b hb => let ⟨o, ho⟩ := Y.live b hb; ⟨o, lock_self (decide_eq_true hb) ho⟩
  refine ⟨R', st.unlock (P := frs A) (lock_pres S.old _), S'.unlock S.base (lock_pres S.old _), ⟨fun a ha => none_of fun o e => ?_, fun a ha => ?_, fun a ha m x d hn hx hat => ?_⟩, fun b hb o e => ?_, q⟩
  · rcases st.new a o e with e | e
    · exact nomatch (Y.r a ha).symm.trans e
    · obtain ⟨o', ho'⟩ := lk a ha; exact nomatch e.symm.trans ho'
  · obtain ⟨o, ho⟩ := lk a ha
    obtain ⟨_, o', e', _⟩ := S'.old a o ho; exact ⟨o', e'⟩
  · obtain ⟨m', V⟩ := S'.vars
    have := V.inj hn rfl; subst this
    obtain ⟨o, ho⟩ := lk a ha
    exact nomatch (V.off x d a hx hat).h.symm.trans ho
  · exact (S'.old b o (lock_self (decide_eq_true hb) e)).1 (O.p b hb)

/-- a for loop -/
theorem ex_for {target iter : PySem.Expr} {body : List Stmt} {pos : Pos} {n : Nat} {ds : Nat → D} (σs : Nat → St) (hi : Iters w k sc σ target iter n ds σ₁) (h0 : ∀ x sl, (σs 0).lookup x = some sl → σ₁.lookup x = some sl)
    (turn : ∀ i, i < n → ∃ σt fl, Asg w k sc True (σs i) target (ds i) σt ∧ (fl = .next ∨ fl = .cont) ∧ Exs w k sc σt body fl (σs (i + 1)))
    (hs : ∀ env x, foldedSetIterable iter env x = pure x := by intro _ _; rfl) : Ex w k sc σ (.For target iter body [] pos) .next (σs n) := fun A F h₀ R s hf lh rm S => by
  have lhL : ∀ {h : Heap} {wr : List Addr}, OffW A F h₀ wr → Fresh F (lock h₀ h (fun b => decide (b ∈ wr))) := fun O => ⟨lock_none lh.L (decide_eq_false fun q => O.l _ q rfl), fun hf y c e => lock_none (lh.c hf y c e) (decide_eq_false fun q => O.c _ q y c e rfl)⟩
  refine wpAny_For (wpAny_mono (hi A F h₀ R s rm S) (fun x s₁ h₁ => wpAny_mono h₁ (fun it s₂ h₂ => ?_) fun _ _ e => e.elim) fun _ _ e => e) (hs _)
  obtain ⟨R₂, I, wr, St, Mid, rfl, st₂, S₂, It, s0, O, Y⟩ := h₂
  refine codeAny_mono (codeAny_forLoop_any (prog := PG) (w := w) (A := A) (R := fun r s' => ∃ R', r = .ok .next ∧ Step h₀ R R' s s' ∧ Sat w A sc F h₀ (σs n) R' s')
    (fun j s' => ∃ i R', j = n - i ∧ i ≤ n ∧ Step h₀ R R' s s' ∧ Le R₂ R' ∧ Sat w A sc F h₀ (σs i) R' s' ∧ St i s'.heap ∧ DynW sc F (σs i) R' s'.heap wr) ?_ (n - 0) ⟨0, R₂, rfl, Nat.zero_le _, st₂, .refl _, S₂.weaken h0, s0, Y.weaken h0⟩) ?_
  · rintro _ s₃ ⟨i, R₃, rfl, hin, st₃, l₃, S₃, s3, Y₃⟩
    by_cases hlt : i < n
    · refine It.item hlt l₃ S₃.ext S₃.fr s3 (fun v R₄ h₄ t₄ a1 a2 a3 a4 a5 a6 a7 => ?_) Y₃.r
      obtain ⟨S₄, Y₄⟩ := S₃.growBut (t := t₄) (d := s₃.drawn) O Y₃ (.of a4) a1 a3 a2
      have Y₄ := Y₄ (It.mlive a7) a5
      have st₄ : Step h₀ R₃ R₄ s₃ { s₃ with heap := h₄, toks := t₄ } := ⟨a1, fun b o e => (a2 b o e).imp id fun z => none_of fun o z' => (by obtain ⟨_, o', e', _⟩ := S₃.old b o z'; exact nomatch z.symm.trans e'), _, _, _, rfl⟩
      refine It.go hlt a7 fun h₅ t₅ s5 b1 => ?_
      obtain ⟨S₅, Y₅⟩ := S₄.growBut (t := t₅) (d := s₃.drawn) O Y₄ (.of b1) (.refl _) (fun b o e => (b1 b o (fun q => nomatch (Y₄.r b q).symm.trans e) (S₄.ext b o e))) (fun b o e => .inl e)
      have Y₅ := Y₅ (It.live s5) Y₄.r
      have st₅ : Step h₀ R₃ R₄ s₃ { s₃ with heap := h₅, toks := t₅ } := ⟨a1, st₄.new, _, _, _, rfl⟩
      obtain ⟨σt, fl, ha, hfl, hb⟩ := turn i hlt
      refine wpAny_mono (run_locked (K := fun _ _ => True) (t := assign target (mkEnv sc F) v) (σ' := σt) S₅ O Y₅ fun SL => wpAny_mono (ha A F _ R₄ _ v (fun _ => hf) (lhL O) rm SL a6) (fun _ _ ⟨R', p, q⟩ => ⟨R', p, q, trivial⟩) fun _ _ e => e) ?_ fun _ _ e => e.elim
      rintro _ s₆ ⟨R₆, st₆, S₆, Y₆, pw₆, -⟩
      refine wpAny_mono (run_locked (K := fun R' (f : Flow) => FlRep w R' fl f) (t := execs body (mkEnv sc F)) (σ' := σs (i + 1)) S₆ O Y₆ fun SL => hb A F _ R₆ s₆ hf (lhL O) rm SL) ?_ fun _ _ e => e.elim
      rintro f s₇ ⟨R₇, st₇, S₇, Y₇, pw, q⟩
      have lR : Le R₂ R₇ := ((l₃.trans a1).trans st₆.le).trans st₇.le
      have : ∃ m, m < n - i ∧ ∃ i' R', m = n - i' ∧ i' ≤ n ∧ Step h₀ R R' s s₇ ∧ Le R₂ R' ∧ Sat w A sc F h₀ (σs i') R' s₇ ∧ St i' s₇.heap ∧ DynW sc F (σs i') R' s₇.heap wr :=
        ⟨n - (i + 1), by omega, i + 1, R₇, rfl, hlt, ((st₃.trans st₅).trans st₆).trans st₇, lR, S₇, It.frame s5 (fun b hb o e => pw b hb o (pw₆ b hb o e)) (fun _ h => absurd h List.not_mem_nil) ((l₃.trans a1).trans S₅.ext) (lR.trans S₇.ext), Y₇⟩
      rcases hfl with rfl | rfl <;> (cases q; exact this)
    · have : i = n := Nat.le_antisymm hin (Nat.not_lt.mp hlt)
      subst this
      refine It.done (l₃.trans S₃.ext) s3 fun h₄ t₄ a4 => wpAny_execs_nil ?_
      have S₄ := (S₃.growBut (t := t₄) (d := s₃.drawn) O Y₃ (.of a4) (.refl _) (fun b o e => a4 b o (fun q => nomatch (Y₃.r b q).symm.trans e) (S₃.ext b o e)) (fun b o e => .inl e)).1
      exact ⟨R₃, rfl, st₃.trans .heap, S₄⟩
  · rintro r s' ⟨R', rfl, st, S'⟩
    exact ⟨R', st, S', .next⟩
end
end Mine
end

noncomputable section
open PySem PySem.W PyProof.Rows
namespace Mine

section
variable {w : World} {k : Nat} {A : Around} {sc : Scope} {F : FrS} {h₀ R R' R'' h h' : Heap} {σ σ' σ₁ σ₂ σ₃ : St} {s s' s'' : Shared} {fn : Prop} {wr : List Addr}

theorem IterAt.of_walks {target : PySem.Expr} {I : Addr} {fp : List Addr} {n : Nat} {ds : Nat → D} {P : Nat → Value → Prop} {St : Nat → Heap → Prop} (W : Walks PG w A I fp [I] n P St)
    {ro : List Addr} (hfp : ∀ b ∈ fp, b = I ∨ (∃ o, R.get? b = some o) ∨ b ∈ ro) (hP : ∀ i v, P i v → Rep w R (ds i) v)
    (go : ∀ i v (s : Shared) (Q : Unit → Shared → Prop) (E : Value → Shared → Prop), St (i + 1) s.heap → Q () s → wpAny (MM w) A (letOwnedTupleGo target (.ref I) v) Q E s)
    (live : ∀ i h, St i h → ∃ o, h.get? I = some o) : IterAt w A target R I [I] ro n ds St (fun i v h => St (i + 1) h ∧ P i v) where
  frame := fun {i h h'} st k kr l l' => W.frame i h h' st fun b hb o e => by
    rcases hfp b hb with rfl | ⟨o', ho'⟩ | hr
    · exact k b List.mem_cons_self o e
    · have := l b o' ho'; rw [e] at this; cases this; exact l' b o ho'
    · exact (kr b hr).trans e
  item := fun {i s R' Q E} hi lR lR' fr st hq nr => W.item i s Q E hi st fun v h' tk p st' keep =>
    hq v R' h' tk (.refl _) (fun _ _ e => .inl e) (fun b o e => keep b o (fun q => by
      rw [List.mem_singleton] at q; subst q; exact nomatch (nr b List.mem_cons_self).symm.trans e) (lR' b o e)) keep nr ((hP i v p).mono lR) ⟨st', p⟩
  go := fun {i v s Q E} _ ⟨m, _⟩ hq => go i v s Q E m (hq s.heap s.toks m fun _ _ _ e => e)
  done := fun {s Q E} l st hq => W.done s Q E st hq
  self := fun {i s Q E} st hq => W.self i s Q E st hq
  rest := fun _ {i v h} m => m.1
  live := fun st b hb => by rw [List.mem_singleton] at hb; subst hb; exact live _ _ st
  mlive := fun st b hb => by rw [List.mem_singleton] at hb; subst hb; exact live _ _ st.1

theorem go_name {x : Str} {p : Pos} {I : Addr} {v : Value} {Q : Unit → Shared → Prop} {E : Value → Shared → Prop} (h : Q () s) : wpAny (MM w) A (letOwnedTupleGo (.Name x p) (.ref I) v) Q E s := wpAny_pure h
theorem go_listIter {target : PySem.Expr} {I l : Addr} {i : Nat} {v : Value} {Q : Unit → Shared → Prop} {E : Value → Shared → Prop} (hi : s.heap.IsListIter I l i) (h : Q () s) : wpAny (MM w) A (letOwnedTupleGo target (.ref I) v) Q E s := by
  obtain ⟨o, ho, hc, hd⟩ := hi
  cases target
  case Tuple =>
    cases v
    case ref =>
      refine wpAny_bind (wpAny_load ho ?_)
      rw [hc, hd]
      exact wpAny_pure h
    all_goals exact wpAny_pure h
  case List =>
    cases v
    case ref =>
      refine wpAny_bind (wpAny_load ho ?_)
      rw [hc, hd]
      exact wpAny_pure h
    all_goals exact wpAny_pure h
  all_goals exact wpAny_pure h

theorem offW_new (S : Sat w A sc F h₀ σ R s) {a : Addr} (n : s.heap.get? a = none) : OffW A F h₀ [a] := by
  have O := S.off_new n
  exact ⟨fun b hb => by rw [List.mem_singleton] at hb; subst hb; exact O.h, fun b hb => by rw [List.mem_singleton] at hb; subst hb; exact O.l,
    fun b hb => by rw [List.mem_singleton] at hb; subst hb; exact O.c, fun b hb => by rw [List.mem_singleton] at hb; subst hb; exact O.p⟩
theorem at_push (S : Sat w A sc F h₀ σ R s) (l : Le s.heap h') {m : Str → Option Value} {x : Str} {d : D} {a : Addr} (n : s.heap.get? a = none) (hn : h'.Ns F.L m) (q : σ.lookup x = some (.own d)) : ¬ At sc F h' m x (.ref a) := fun i => by
  obtain ⟨m', V⟩ := S.vars
  have hn' := V.ns.keeps l
  have : m = m' := by
    obtain ⟨o, es, ep, a1, a2, a3, a4⟩ := hn
    obtain ⟨o', es', ep', b1, b2, b3, b4⟩ := hn'
    rw [a1] at b1; cases b1; rw [a2] at b2; cases b2
    funext x; rw [← a4, ← b4]
  subst this
  exact S.notOwn n V.ns q (At.bwd S.cells.is (fun _ c v _ i => i.keeps l) i)
theorem dynW_new (S : Sat w A sc F h₀ σ R s) (l : Le s.heap h') {a : Addr} (n : s.heap.get? a = none) (e : ∃ o, h'.get? a = some o) : DynW sc F σ R h' [a] :=
  ⟨fun b hb => by rw [List.mem_singleton] at hb; subst hb; exact (S.off_new n).r, fun b hb => by rw [List.mem_singleton] at hb; subst hb; exact e,
    fun b hb m x d hn q => by rw [List.mem_singleton] at hb; subst hb; exact at_push S l n hn q⟩

/-- what an iterated expression hands on -/
noncomputable def ItPost (w : World) (A : Around) (sc : Scope) (F : FrS) (h₀ R : Heap) (s : Shared) (target : PySem.Expr) (n : Nat) (ds : Nat → D) (σ' : St) (it : Value) (s₂ : Shared) : Prop :=
  ∃ R' I wr St Mid, it = .ref I ∧ Step h₀ R R' s s₂ ∧ Sat w A sc F h₀ σ' R' s₂ ∧ IterAt w A target R' I wr [] n ds St Mid ∧ St 0 s₂.heap ∧ OffW A F h₀ wr ∧ DynW sc F σ' R' s₂.heap wr
theorem itPost_new {target : PySem.Expr} {I : Addr} {n : Nat} {ds : Nat → D} {St : Nat → Heap → Prop} {Mid : Nat → Value → Heap → Prop} {t : Nat} (S : Sat w A sc F h₀ σ R' s') (st : Step h₀ R R' s s') (l : Le s'.heap h') (nI : s'.heap.get? I = none)
    (It : IterAt w A target R' I [I] [] n ds St Mid) (z : St 0 h') : ItPost w A sc F h₀ R s target n ds σ (.ref I) { s' with heap := h', toks := t } :=
  ⟨R', I, [I], St, Mid, rfl, st.trans .heap, S.keep l, It, z, offW_new S nI, dynW_new S l nI (It.live z I List.mem_cons_self)⟩

theorem listIter_live {I a i : Nat} {vs : Array Value} (x : h.IsListIter I a i ∧ h.IsList a vs) : ∃ o, h.get? I = some o := let ⟨o, ho, _⟩ := x.1; ⟨o, ho⟩
theorem getD_of {l : List D} {vs : List Value} (r : RepL w R l vs) {i : Nat} {v : Value} (e : vs.toArray[i]? = some v) : Rep w R (l.getD i .none) v := by
  obtain ⟨d, hd, q⟩ := r.get' (i := i) (v := v) (by simpa using e)
  rw [List.getD_eq_getElem?_getD, hd]; exact q
theorem iterAt_list {target : PySem.Expr} {I a : Addr} {l : List D} {vs : List Value} (hh : A.handled = none) (ne : a ≠ I) (hl : R.IsList a vs.toArray) (r : RepL w R l vs) :
    IterAt w A target R I [I] [] l.length (fun i => l.getD i .none) (fun i h => h.IsListIter I a i ∧ h.IsList a vs.toArray) (fun i v h => (h.IsListIter I a (i + 1) ∧ h.IsList a vs.toArray) ∧ vs.toArray[i]? = some v) := by
  have W := Walks.list (prog := PG) (w := w) hh I a ne vs.toArray
  rw [List.size_toArray, r.length] at W
  refine IterAt.of_walks W (fun b hb => ?_) (fun i v e => getD_of r e) (fun i v s Q E st h => go_listIter st.1 h) (fun i h st => listIter_live st)
  rcases List.mem_cons.mp hb with e | hb
  · exact .inl e
  · rw [List.mem_singleton] at hb; subst hb
    obtain ⟨o, ho, _⟩ := hl; exact .inr (.inl ⟨o, ho⟩)
/-- over a frozen list -/
theorem iters_list {target iter : PySem.Expr} {l : List D} (h : Ev w k sc σ iter (.list l) σ') : Iters w k sc σ target iter l.length (fun i => l.getD i .none) σ' := fun A F h₀ R s rm S =>
  wp_then (h A F h₀ R s rm S) fun v R₁ s₁ st₁ S₁ q₁ => by
    replace q₁ := q₁.list_inv
    obtain ⟨a, vs, rfl, hl, r⟩ := q₁
    have n := get_size s₁.heap
    have hl' := isList_mono S₁.ext hl
    have ne : a ≠ s₁.heap.objs.size := fun e => by obtain ⟨o, ho, _⟩ := hl'; exact nomatch (e ▸ n).symm.trans ho
    exact wpAny_pyIter_list hl' (itPost_new (t := s₁.toks) S₁ st₁ (Le.push _ _) n (iterAt_list rm.h ne hl r) ⟨⟨_, Heap.get?_push_size _ rfl, rfl, rfl⟩, isList_mono (Le.push _ _) hl'⟩)

/-- over a written range's first form -/
theorem iters_range {x : Str} {p pos tp : Pos} {t : Str} {e : PySem.Expr} {n : Int} (hf : Ev w k sc σ (.Name x p) (.val (.type "range")) σ₁) (h : Ev w k sc σ₁ e (.int n) σ') (h1 : -(2 ^ 62) ≤ n) (h2 : n < 2 ^ 62)
    (hse : ∀ env, backTo pos (starEach [e] env) = [(false, eval e env)] := by intro _; rfl) : Iters w k sc σ (.Name t tp) (.Call (.Name x p) [e] [] pos) n.toNat (fun i => .int i) σ' := fun A F h₀ R s rm S => by
  refine Call_Name rfl (wp_then (hf A F h₀ R s rm S) fun v R₁ s₁ st₁ S₁ q₁ => ?_)
  cases q₁
  rw [hse]
  refine PyProof.Rows.callWith_type rfl (Calls.evalArgs_plain (Calls.spliced_cons (wp_then (h A F h₀ R₁ s₁ rm S₁) fun v R₂ s₂ st₂ S₂ q₂ => Calls.spliced_nil ?_)))
  replace q₂ := q₂.int_inv
  obtain ⟨tN, rfl⟩ := q₂
  refine call_range_1 (wpAny_pyIter_range (IsRange.new ..) (small_one (by decide) (by decide) h1 h2) ?_)
  have hsz : Builtin.Range.rangeSize 0 n 1 = (n.toNat : Int) := by rw [rangeSize_one]; split <;> omega
  have S₃ := S₂.push (t := s₂.toks + 1 + 1) { cls := .type "range", data := .fields #[.int 0 s₂.toks, .int n tN, .int 1 (s₂.toks + 1)] }
  have nn := get_size (s₂.heap.push { cls := .type "range", data := .fields #[.int 0 s₂.toks, .int n tN, .int 1 (s₂.toks + 1)] })
  have W := Walks.range (prog := PG) (w := w) rm.h (s₂.heap.push { cls := .type "range", data := .fields #[.int 0 s₂.toks, .int n tN, .int 1 (s₂.toks + 1)] }).objs.size 0 1 n.toNat
  refine itPost_new (t := s₂.toks + 1 + 1) S₃ ((st₁.trans st₂).trans .heap) (Le.push _ _) nn (IterAt.of_walks W (fun b hb => .inl (by simpa using hb)) (fun i v ⟨t, e⟩ => ?_) (fun i v s Q E st h => go_name h) (fun i h st => ⟨_, st⟩)) ?_
  · subst e; have : (0 + (i : Int) * 1) = i := by omega
    rw [this]; exact .int _ _
  · have e1 : (0 + ((0 : Nat) : Int) * 1) = 0 := by simp
    have e2 : ((n.toNat : Int) - ((0 : Nat) : Int)) = Builtin.Range.rangeSize 0 n 1 := by rw [hsz]; simp
    rw [e1, e2]
    exact Heap.get?_push_size _ rfl

theorem itPost_many {target : PySem.Expr} {I : Addr} {wr : List Addr} {n : Nat} {ds : Nat → D} {St : Nat → Heap → Prop} {Mid : Nat → Value → Heap → Prop} {t : Nat} (S : Sat w A sc F h₀ σ R' s') (st : Step h₀ R R' s s') (l : Le s'.heap h') (nI : ∀ a ∈ wr, s'.heap.get? a = none)
    (It : IterAt w A target R' I wr [] n ds St Mid) (z : St 0 h') : ItPost w A sc F h₀ R s target n ds σ (.ref I) { s' with heap := h', toks := t } :=
  ⟨R', I, wr, St, Mid, rfl, st.trans .heap, S.keep l, It, z, ⟨fun a ha => (S.off_new (nI a ha)).h, fun a ha => (S.off_new (nI a ha)).l, fun a ha => (S.off_new (nI a ha)).c, fun a ha => (S.off_new (nI a ha)).p⟩,
    ⟨fun a ha => (S.off_new (nI a ha)).r, fun a ha => It.live z a ha, fun a ha m x d hn q => at_push S l (nI a ha) hn q⟩⟩

/-- over the signs of a text -/
theorem iters_str {t : Str} {tp : Pos} {iter : PySem.Expr} {x : Str} (h : Ev w k sc σ iter (.str x) σ') : Iters w k sc σ (.Name t tp) iter x.cps.size (fun i => .str ⟨#[x.cps.getD i 0]⟩) σ' := fun A F h₀ R s rm S =>
  wp_then (h A F h₀ R s rm S) fun v R₁ s₁ st₁ S₁ q₁ => by
    replace q₁ := q₁.str_inv
    obtain ⟨t, rfl⟩ := q₁
    have n := get_size s₁.heap
    have sg : ∀ i v, SignAt x i v → Rep w R₁ (.str ⟨#[x.cps.getD i 0]⟩) v := fun i v ⟨c, u, e, q⟩ => by
      subst q
      have : x.cps.getD i 0 = c := by simp [Array.getD_eq_getD_getElem?, e]
      rw [this]; exact .str _ _
    cases ha : x.cps.all (· < 128)
    · refine wpAny_pyIter_wide ha (itPost_new (t := s₁.toks) S₁ st₁ (Le.push _ _) n (IterAt.of_walks (Walks.strWide rm.h s₁.heap.objs.size x t) (fun b hb => .inl (by simpa using hb)) sg (fun i v s Q E st h => go_name h) (fun i h st => ?_)) ⟨_, Heap.get?_push_size _ rfl, rfl, rfl⟩)
      obtain ⟨o, ho, _⟩ := st; exact ⟨o, ho⟩
    · refine wpAny_pyIter_ascii ha (itPost_new (t := s₁.toks) S₁ st₁ (Le.push _ _) n (IterAt.of_walks (Walks.strAscii rm.h s₁.heap.objs.size x t) (fun b hb => .inl (by simpa using hb)) sg (fun i v s Q E st h => go_name h) (fun i h st => ?_)) ⟨_, Heap.get?_push_size _ rfl, rfl, rfl⟩)
      obtain ⟨o, ho, _⟩ := st; exact ⟨o, ho⟩

/-- over a frozen dict's keys -/
theorem iters_dict {t : Str} {tp : Pos} {iter : PySem.Expr} {ks : List Str} {ds : List D} (h : Ev w k sc σ iter (.dict ks ds) σ') : Iters w k sc σ (.Name t tp) iter ks.length (fun i => .str (ks.getD i default)) σ' := fun A F h₀ R s rm S =>
  wp_then (h A F h₀ R s rm S) fun v R₁ s₁ st₁ S₁ q₁ => by
    cases q₁ with
    | @dict a kvs ep _ _ z hd hk r =>
      have n := get_size s₁.heap
      have hd' := dictAt_mono S₁.ext hd
      have ne : a ≠ s₁.heap.objs.size := fun e => by obtain ⟨o, _, ho, _⟩ := hd'; exact nomatch (e ▸ n).symm.trans ho
      have hlen : kvs.length = ks.length := by rw [← hk, List.length_map]
      have W := Walks.dictKeys (prog := PG) (w := w) (knd := PySem.strKind PG w) rm.h s₁.heap.objs.size a ne kvs ep
      rw [hlen] at W
      refine wpAny_pyIter_dict z hd' (itPost_new (t := s₁.toks) S₁ st₁ (Le.push _ _) n (IterAt.of_walks W (fun b hb => ?_) (fun i v ⟨k, x, e, q⟩ => ?_) (fun i v s Q E st h => go_name h) (fun i h st => ?_)) ⟨?_, dictAt_mono (Le.push _ _) hd'⟩)
      · rcases List.mem_cons.mp hb with e | hb
        · exact .inl e
        · rw [List.mem_singleton] at hb; subst hb
          obtain ⟨o, _, ho, _⟩ := hd; exact .inr (.inl ⟨o, ho⟩)
      · have : ks.getD i default = k := by rw [← hk, List.getD_eq_getElem?_getD, List.getElem?_map, e]; rfl
        rw [this]
        obtain ⟨t, e'⟩ := Value.isStrOf_shape (show Value.isStrOf k v = true from q)
        subst e'; exact .str _ _
      · obtain ⟨⟨o, ho, _⟩, _⟩ := st; exact ⟨o, ho⟩
      · rw [hlen]; exact ⟨_, Heap.get?_push_size _ rfl, rfl, rfl⟩

/-- over the numbered items of a frozen list -/
theorem iters_enum {x : Str} {p pos tp : Pos} {elts : List PySem.Expr} {kk : Nat} {e : PySem.Expr} {l : List D} (hf : Ev w k sc σ (.Name x p) (.val (.type "enumerate")) σ₁) (h : Ev w k sc σ₁ e (.list l) σ')
    (hse : ∀ env, backTo pos (starEach [e] env) = [(false, eval e env)] := by intro _; rfl) : Iters w k sc σ (.Tuple elts kk tp) (.Call (.Name x p) [e] [] pos) l.length (fun i => .tup [.int i, l.getD i .none]) σ' := fun A F h₀ R s rm S => by
  refine Call_Name rfl (wp_then (hf A F h₀ R s rm S) fun v R₁ s₁ st₁ S₁ q₁ => ?_)
  cases q₁
  rw [hse]
  refine PyProof.Rows.callWith_type rfl (Calls.evalArgs_plain (Calls.spliced_cons (wp_then (h A F h₀ R₁ s₁ rm S₁) fun v R₂ s₂ st₂ S₂ q₂ => Calls.spliced_nil ?_)))
  replace q₂ := q₂.list_inv
  obtain ⟨a, vs, rfl, hl, r⟩ := q₂
  have hl' := isList_mono S₂.ext hl
  refine call_enumerate_list hl' fun h' en il sz kp => ?_
  have n0 := get_size s₂.heap
  have n1 : s₂.heap.get? (s₂.heap.objs.size + 1) = none := none_of fun o e => absurd (Heap.lt_size e) (Nat.not_lt.mpr (Nat.le_succ _))
  have ne0 : a ≠ s₂.heap.objs.size := fun e => by obtain ⟨o, ho, _⟩ := hl'; exact nomatch (e ▸ n0).symm.trans ho
  have ne1 : a ≠ s₂.heap.objs.size + 1 := fun e => by obtain ⟨o, ho, _⟩ := hl'; exact nomatch (e ▸ n1).symm.trans ho
  have W := WalksT.enumerate (prog := PG) (w := w) rm.h (s₂.heap.objs.size + 1) s₂.heap.objs.size a (Nat.succ_ne_self _) ne1 ne0 vs.toArray
  have hsz : vs.toArray.size = l.length := by rw [List.size_toArray, r.length]
  rw [hsz] at W
  refine W.self 0 _ _ _ ⟨⟨_, en⟩, il, isList_mono kp hl'⟩ ?_
  refine itPost_many (t := s₂.toks) (wr := [s₂.heap.objs.size + 1, s₂.heap.objs.size]) S₂ (st₁.trans st₂) kp (fun b hb => ?_) (St := fun i h => (∃ old, IsEnum h (s₂.heap.objs.size + 1) s₂.heap.objs.size i old) ∧ h.IsListIter s₂.heap.objs.size a i ∧ h.IsList a vs.toArray)
    (Mid := fun i v h => ∃ T, v = .ref T ∧ (∃ x, IsEnumOut h (s₂.heap.objs.size + 1) s₂.heap.objs.size ((i : Int) + 1) x T) ∧ h.IsListIter s₂.heap.objs.size a (i + 1) ∧ h.IsList a vs.toArray ∧ T ≠ s₂.heap.objs.size + 1 ∧ T ≠ s₂.heap.objs.size) ?_ ⟨⟨_, en⟩, il, isList_mono kp hl'⟩
  · rcases List.mem_cons.mp hb with e | hb
    · rw [e]; exact n1
    · rw [List.mem_singleton] at hb; rw [hb]; exact n0
  refine { frame := ?_, item := ?_, go := ?_, done := ?_, self := fun {i s Q E} st hq => W.self i s Q E st hq, rest := fun q => (nomatch (q (.ref 0) (.ref 0))), live := ?_, mlive := ?_ }
  · intro i h1 h2 st kk _ l1 l2
    refine W.frame i h1 h2 st fun b hb o e => ?_
    rcases List.mem_cons.mp hb with e' | hb
    · exact kk b (by rw [e']; exact List.mem_cons_self) o e
    rcases List.mem_cons.mp hb with e' | hb
    · exact kk b (by rw [e']; simp) o e
    · rw [List.mem_singleton] at hb; subst hb
      obtain ⟨o', ho', _⟩ := hl
      have := l1 b o' ho'; rw [e] at this; cases this; exact l2 b o ho'
  · intro i s₃ R' Q E hi lR lR' fr st hq nr
    refine W.item i s₃ Q E hi st fun T vals h4 tk ⟨t, y, hy, e⟩ hT isT mid keep => ?_
    subst e
    have nT : s₃.heap.get? T = none := none_of fun o e => absurd (Heap.lt_size e) (Nat.not_lt.mpr hT)
    have l4 : Le R' h4 := fun b o e => keep b o (fun q => (nomatch (nr b q).symm.trans e)) (lR' b o e)
    obtain ⟨oT, hoT, cT⟩ := isT
    refine hq (.ref T) (addR R' h4 T) h4 tk (addR_le l4 T) (fun b o e => ((addR_get l4).mp e).imp id fun ⟨q, _⟩ => q ▸ nT) (addR_ext _ _ _) keep (fun b hb => none_of fun o e => ?_) (.tup (vs := [.int i t, y]) ⟨oT, addR_self l4 hoT, cT⟩ (.cons (.int _ _) (.cons ((getD_of r hy).mono (lR.trans (addR_le l4 T))) .nil))) ⟨T, rfl, mid⟩
    rcases (addR_get l4).mp e with e | ⟨e, _⟩
    · exact nomatch (nr b hb).symm.trans e
    · subst e; exact W.apart i b h4 mid hb
  · rintro i v s₃ Q E hi ⟨T, rfl, mid⟩ hq
    exact W.go elts kk tp i T s₃ Q E mid fun h4 st keep => hq h4 s₃.toks st keep
  · intro s₃ Q E l st hq
    exact W.done s₃ Q E st hq
  · rintro i h1 ⟨⟨old, q1⟩, ⟨o, q2, _⟩, _⟩ b hb
    rcases List.mem_cons.mp hb with e | hb
    · rw [e]; exact ⟨_, q1⟩
    · rw [List.mem_singleton] at hb; rw [hb]; exact ⟨_, q2⟩
  · rintro i v h1 ⟨T, rfl, ⟨x, q1⟩, ⟨o, q2, _⟩, _⟩ b hb
    rcases List.mem_cons.mp hb with e | hb
    · rw [e]; exact ⟨_, q1⟩
    · rw [List.mem_singleton] at hb; rw [hb]; exact ⟨_, q2⟩
end
end Mine
end

noncomputable section
open PySem PySem.W PyProof.Rows
namespace Mine
theorem call_append {w : World} {A : Around} {s : Shared} {E : Value → Shared → Prop} {l : Addr} {vs : List Value} {n : Nat} {x : Value} {Q : Value → Shared → Prop} (hl : s.heap.get? l = some (seqObj "list" vs.toArray n)) (hz : vs.length ≤ sizeLine)
    (h : ∀ h', Heap.SameBut l s.heap h' → (∃ n', h'.get? l = some (seqObj "list" (vs ++ [x]).toArray n')) → Q .none { s with heap := h' }) : wpAny (MM w) A (call (.builtin "list.append") [.ref l, x]) Q E s :=
  call_meets F.slot_list_append ⟨_, hl, rfl⟩ F.entry_list_append (F.args_list_append_2 _ _) (PySem.list_append l vs.toArray n x (by simpa using hz)) ⟨hl, h _ (Heap.SameBut.update ..) (by
    rw [get?_update_seq hl]
    exact ⟨_, by rw [List.push_toArray]⟩)⟩

noncomputable def clo (cells : List (Str × Addr)) : List (Str × NameKind) → List (Str × Addr) → List (Str × Addr)
  | [], acc => acc
  | (n, kd) :: r, acc => if kd == .free then clo cells r ((n, (cells.lookup n).getD 0) :: acc) else clo cells r acc
theorem closureFor_eq {scope : Scope} {env : Env} (h : ∀ x, (x, NameKind.free) ∈ scope.names → ∃ c, env.cells.lookup x = some c) : closureFor scope env = pure (clo env.cells scope.names []) := by
  unfold closureFor
  have key : ∀ (names : List (Str × NameKind)) (acc : List (Str × Addr)), (∀ x, (x, NameKind.free) ∈ names → ∃ c, env.cells.lookup x = some c) →
      (forIn names acc (fun x cs => match x with | (name, kind) => (do if (kind == NameKind.free) = true then do let c ← cellOf env name; pure (ForInStep.yield ((name, c) :: cs)) else pure (ForInStep.yield cs))) : Sem (List (Str × Addr))) = pure (clo env.cells names acc) := by
    intro names
    induction names with
    | nil => intro acc _; rfl
    | cons p r ih =>
      intro acc h
      obtain ⟨n, kd⟩ := p
      rw [List.forIn_cons]
      have ih := fun acc => ih acc fun x hx => h x (List.mem_cons_of_mem _ hx)
      by_cases hk : (kd == NameKind.free) = true
      · obtain ⟨c, hc⟩ := h n (by rw [beq_iff_eq] at hk; rw [hk]; exact List.mem_cons_self)
        have hcell : cellOf env n = pure c := congrArg (fun o : Option Addr => (match o with | some a => pure a | none => unsupported "internal:no-cell-for-name" : Sem Addr)) hc
        simp only [hk, if_true, clo, hcell, hc, Option.getD_some]
        exact ih _
      · simp only [hk, clo]
        exact ih _
  exact (congrArg (fun t : Sem (List (Str × Addr)) => t >>= fun s => pure s) (key scope.names [] h)).trans rfl
theorem clo_sub {cells : List (Str × Addr)} {x : Str} {c : Addr} : ∀ (names : List (Str × NameKind)) (acc : List (Str × Addr)), (∀ x, (x, NameKind.free) ∈ names → ∃ c, cells.lookup x = some c) →
    (∀ x c, acc.lookup x = some c → cells.lookup x = some c) → (clo cells names acc).lookup x = some c → cells.lookup x = some c
  | [], acc, _, ha, e => ha _ _ e
  | (n, kd) :: r, acc, h, ha, e => by
    unfold clo at e
    split at e
    · rename_i hk
      rw [beq_iff_eq] at hk; subst hk
      obtain ⟨c', hc'⟩ := h n List.mem_cons_self
      refine clo_sub r _ (fun x hx => h x (List.mem_cons_of_mem _ hx)) (fun y c hy => ?_) e
      rw [List.lookup_cons] at hy
      cases hb : y == n with
      | true => rw [hb] at hy; cases hy; rw [beq_iff_eq] at hb; rw [hb, hc']; rfl
      | false => rw [hb] at hy; exact ha _ _ hy
    · exact clo_sub r _ (fun x hx => h x (List.mem_cons_of_mem _ hx)) ha e
theorem clo_has {cells : List (Str × Addr)} {x : Str} : ∀ (names : List (Str × NameKind)) (acc : List (Str × Addr)), ((x, NameKind.free) ∈ names ∨ ∃ c, acc.lookup x = some c) → ∃ c, (clo cells names acc).lookup x = some c
  | [], acc, h => h.elim (fun h => absurd h List.not_mem_nil) id
  | (n, kd) :: r, acc, h => by
    unfold clo
    split
    · rename_i hk
      rw [beq_iff_eq] at hk; subst hk
      refine clo_has r _ ?_
      by_cases hx : x = n
      · subst hx; exact .inr ⟨(cells.lookup x).getD 0, by simp⟩
      · refine h.imp (fun h => ?_) fun ⟨c, hc⟩ => ⟨c, by rw [List.lookup_cons, beq_eq_false_iff_ne.mpr hx]; exact hc⟩
        rcases List.mem_cons.mp h with e | h
        · cases e; exact (hx rfl).elim
        · exact h
    · rename_i hk
      refine clo_has r _ (h.imp (fun h => ?_) id)
      rcases List.mem_cons.mp h with e | h
      · cases e; exact (hk rfl).elim
      · exact h

/-- a comprehension's scope within that of its frame -/
noncomputable def relabelS (scope sc : Scope) : Scope := { scope with names := scope.names.map fun (n, k) => if (k == .free && sc.kind == .function && sc.names.lookup n == some .cell) then (n, .cell) else (n, k) }
section
variable {w : World} {k : Nat} {A : Around} {sc : Scope} {F : FrS} {h₀ R R' R'' h h' : Heap} {σ σ' σ₁ σ₂ σ₃ : St} {s s' s'' : Shared} {fn : Prop} {wr : List Addr}

/-- the list that a comprehension fills -/
noncomputable def AccAt (w : World) (G : Addr) (ds : List D) (R h : Heap) : Prop := ∃ vs n, h.get? G = some (seqObj "list" (List.toArray vs) n) ∧ RepL w R ds vs
theorem AccAt.move {G : Addr} {ds : List D} (a : AccAt w G ds R h) (e : ∀ o, h.get? G = some o → h'.get? G = some o) (l : Le R R') : AccAt w G ds R' h' := let ⟨vs, n, x, r⟩ := a; ⟨vs, n, e _ x, r.mono l⟩

noncomputable def Tests (w : World) (k : Nat) (sc : Scope) (σ : St) (ifs : List PySem.Expr) (b : Bool) (σ' : St) : Prop :=
  Jd w k sc σ (fun env => forIn ifs true fun c r => if r = true then do let ok ← isTrue c env (eval c env); pure (ForInStep.yield ok) else pure (ForInStep.yield r)) (fun _ c => c = b) σ'
theorem tests_nil : Tests w k sc σ [] true σ := fun A F h₀ R s rm S => wpAny_tests_nil ⟨R, .refl .., S, rfl⟩
theorem tests_one {c : PySem.Expr} {b : Bool} (h : Tr w k sc σ c b σ') : Tests w k sc σ [c] b σ' := fun A F h₀ R s rm S => wpAny_tests_one (h A F h₀ R s rm S)

/-- the state between two turns of a comprehension -/
structure CSt (w : World) (A : Around) (sc : Scope) (F : FrS) (h₀ R : Heap) (s : Shared) (σ : St) (wr : List Addr) (G : Addr) (ds : List D) (R' : Heap) (s' : Shared) : Prop where
  st : Step h₀ R R' s s'
  S : Sat w A sc F h₀ σ R' s'
  Y : DynW sc F σ R' s'.heap (G :: wr)
  a : AccAt w G ds R' s'.heap

/-- one item put onto the list -/
theorem CSt.append {G : Addr} {ds : List D} {d : D} {v : Value} (C : CSt w A sc F h₀ R s σ wr G ds R' s') (O : OffW A F h₀ (G :: wr)) (hG : G ∉ wr) (r : Rep w R' d v) (hz : ds.length ≤ sizeLine) {Q : Value → Shared → Prop} {E : Value → Shared → Prop}
    (h : ∀ h', Heap.SameBut G s'.heap h' → CSt w A sc F h₀ R s σ wr G (ds ++ [d]) R' { s' with heap := h' } → Q .none { s' with heap := h' }) : wpAny (MM w) A (call (.builtin "list.append") [.ref G, v]) Q E s' := by
  obtain ⟨vs, n, hl, rs⟩ := C.a
  refine call_append hl (by rw [rs.length]; exact hz) fun h' sb ⟨n', e⟩ => h h' sb ?_
  have k : ∀ b o, b ∉ G :: wr → s'.heap.get? b = some o → h'.get? b = some o := fun b o nb z => (sb.2 b fun q => nb (q ▸ List.mem_cons_self)).trans z
  obtain ⟨S₁, Y₁⟩ := C.S.growBut (t := s'.toks) (d := s'.drawn) O C.Y (.of k) (.refl _) (fun b o e => k b o (fun q => nomatch (C.Y.r b q).symm.trans e) (C.S.ext b o e)) fun b o e => .inl e
  refine ⟨C.st.trans .heap, S₁, Y₁ (fun a ha => ?_) C.Y.r, ⟨vs ++ [v], n', e, rs.append (.cons r .nil)⟩⟩
  rcases List.mem_cons.mp ha with q | ha
  · subst q; exact ⟨_, e⟩
  · obtain ⟨o, ho⟩ := C.Y.live a (List.mem_cons_of_mem _ ha)
    exact ⟨o, (sb.2 a fun q => hG (q ▸ ha)).trans ho⟩

/-- a step of the inner frame -/
theorem CSt.jd {α : Type} {t : Env → Sem α} {K : Heap → α → Prop} {G : Addr} {ds : List D} (C : CSt w A sc F h₀ R s σ wr G ds R' s') (O : OffW A F h₀ (G :: wr)) (rm : Room k A) (h : Jd w k sc σ t K σ') {Q : α → Shared → Prop} {E : Value → Shared → Prop}
    (n : ∀ v R'' s'', CSt w A sc F h₀ R s σ' wr G ds R'' s'' → Step h₀ R' R'' s' s'' → (∀ b ∈ wr, ∀ o, s'.heap.get? b = some o → s''.heap.get? b = some o) → K R'' v → Q v s'') : wpAny (MM w) A (t (mkEnv sc F)) Q E s' := by
  refine wpAny_mono (run_locked C.S O C.Y fun SL => h A F _ R' s' rm SL) ?_ fun _ _ e => e.elim
  rintro v s'' ⟨R'', st, S'', Y'', pw, q⟩
  exact n v R'' s'' ⟨C.st.trans st, S'', Y'', C.a.move (pw G List.mem_cons_self) st.le⟩ st (fun b hb => pw b (List.mem_cons_of_mem _ hb)) q
theorem Asg.jd {t : PySem.Expr} {d : D} (h : Asg w k sc False σ t d σ') {v : Value} {R₀ : Heap} (r : Rep w R₀ d v) : ∀ A F h₀ R s, Le R₀ R → Fresh F h₀ → Room k A → Sat w A sc F h₀ σ R s →
    wpAny (MM w) A (assign t (mkEnv sc F) v) (fun _ s' => ∃ R', Step h₀ R R' s s' ∧ Sat w A sc F h₀ σ' R' s' ∧ True) (fun _ _ => False) s := fun A F h₀ R s l lh rm S =>
  wpAny_mono (h A F h₀ R s v (fun e => e.elim) lh rm S (r.mono l)) (fun _ _ ⟨R', p, q⟩ => ⟨R', p, q, trivial⟩) fun _ _ e => e

/-- the walk of a comprehension with one for -/
theorem comp_loop1 {elt target iter : PySem.Expr} {ifs : List PySem.Expr} {scope : Scope} {pos : Pos} {I G : Addr} {n : Nat} {ds : Nat → D} {St : Nat → Heap → Prop} {Mid : Nat → Value → Heap → Prop} (σs : Nat → Mine.St) (out : Nat → List D)
    (turn : ∀ i, i < n → ∃ σt b σu, Asg w k sc False (σs i) target (ds i) σt ∧ Tests w k sc σt ifs b σu ∧ (b = true → ∃ d, Ev w k sc σu elt d (σs (i + 1)) ∧ out (i + 1) = out i ++ [d] ∧ (out i).length ≤ sizeLine) ∧ (b = false → out (i + 1) = out i ∧ ∀ x sl, (σs (i + 1)).lookup x = some sl → σu.lookup x = some sl))
    (ht : ∀ it v, letOwnedTupleGo target it v = pure ()) (lh : Fresh F h₀) (rm : Room k A) {R₀ : Heap} (hR : Le R₀ R) {ro : List Addr} (It : IterAt w A target R₀ I wr ro n ds St Mid) (hro : ∀ a ∈ ro, a ∉ frs A ∧ a ∉ G :: wr ∧ ∃ o, h₀.get? a = some o) (O : OffW A F h₀ (G :: wr)) (hG : G ∉ wr) (C : CSt w A sc F h₀ R s (σs 0) wr G (out 0) R s) (z : St 0 s.heap) :
    codeAny (MM w) A (.compLoop (.ListComp elt [⟨target, iter, ifs, 0⟩] scope pos) 0 (.ref I) (.ref G) (mkEnv sc F)) (fun r s' => ∃ R', r = .ok .next ∧ Step h₀ R R' s s' ∧ Sat w A sc F h₀ (σs n) R' s' ∧ AccAt w G (out n) R' s'.heap ∧ ∀ a ∈ G :: wr, R'.get? a = none) s := by
  refine codeAny_compLoop_tests (prog := PG) (w := w) (A := A) (fun j s' => ∃ i R', j = n - i ∧ i ≤ n ∧ CSt w A sc F h₀ R s (σs i) wr G (out i) R' s' ∧ St i s'.heap) ?_ (n - 0) ⟨0, R, rfl, Nat.zero_le _, C, z⟩ (ht _)
  rintro _ s₃ ⟨i, R₃, rfl, hin, C₃, s3⟩
  have l₃ : Le R₀ R₃ := hR.trans C₃.st.le
  have wk : ∀ {h₁ h₂ : Heap}, (∀ b o, b ∉ wr → h₁.get? b = some o → h₂.get? b = some o) → ∀ b o, b ∉ G :: wr → h₁.get? b = some o → h₂.get? b = some o := fun q b o nb e => q b o (fun z => nb (List.mem_cons_of_mem _ z)) e
  by_cases hlt : i < n
  · refine It.item hlt l₃ C₃.S.ext C₃.S.fr s3 (fun v R₄ h₄ t₄ a1 a2 a3 a4 a5 a6 a7 => ?_) (fun a ha => C₃.Y.r a (List.mem_cons_of_mem _ ha))
    obtain ⟨vs, nn, hG₃, rG₃⟩ := C₃.a
    have r4 : ∀ a ∈ G :: wr, R₄.get? a = none := fun a ha => by
      rcases List.mem_cons.mp ha with e | ha
      · subst e; exact none_of fun o e => (a2 _ o e).elim (fun e => nomatch (C₃.Y.r a List.mem_cons_self).symm.trans e) fun e => nomatch e.symm.trans hG₃
      · exact a5 a ha
    obtain ⟨S₄, Y₄⟩ := C₃.S.growBut (t := t₄) (d := s₃.drawn) O C₃.Y (.of (wk a4)) a1 a3 a2
    have C₄ : CSt w A sc F h₀ R s (σs i) wr G (out i) R₄ { s₃ with heap := h₄, toks := t₄ } := ⟨C₃.st.trans ⟨a1, fun b o e => (a2 b o e).imp id fun z => none_of fun o z' => (by obtain ⟨_, o', e', _⟩ := C₃.S.old b o z'; exact nomatch z.symm.trans e'), _, _, _, rfl⟩, S₄,
      Y₄ (fun a ha => by
        rcases List.mem_cons.mp ha with e | ha
        · subst e; exact ⟨_, a4 _ _ hG hG₃⟩
        · exact It.mlive a7 a ha) r4, C₃.a.move (fun o e => a4 _ o hG e) a1⟩
    have s4 : St (i + 1) h₄ := It.rest ht a7
    obtain ⟨σt, b, σu, ha, hb, hc, hd⟩ := turn i hlt
    have keep : ∀ {R₅ R₆ : Heap} {s₅ s₆ : Shared}, Le R₀ R₅ → Le R₅ s₅.heap → Le R₅ R₆ → Le R₆ s₆.heap → (∀ b ∈ wr, ∀ o, s₅.heap.get? b = some o → s₆.heap.get? b = some o) → Pres (frs A) h₀ s₅.heap → Pres (frs A) h₀ s₆.heap → St (i + 1) s₅.heap → St (i + 1) s₆.heap := fun l1 l2 l3 l4 pw p5 p6 st => It.frame st pw (fun b hb => by
      obtain ⟨q1, _, o, q2⟩ := hro b hb
      rw [(p5 b o q2).1 q1, (p6 b o q2).1 q1]) (l1.trans l2) ((l1.trans l3).trans l4)
    refine wpAny_mono (run_locked C₄.S O C₄.Y fun SL => ha.jd a6 A F _ R₄ _ (.refl _) ⟨lock_none lh.L (decide_eq_false fun q => O.l _ q rfl), fun hf y c e => lock_none (lh.c hf y c e) (decide_eq_false fun q => O.c _ q y c e rfl)⟩ rm SL) ?_ fun _ _ e => e.elim
    rintro _ s₅ ⟨R₅, st₅, S₅, Y₅, pw₅, -⟩
    have C₅ : CSt w A sc F h₀ R s σt wr G (out i) R₅ s₅ := ⟨C₄.st.trans st₅, S₅, Y₅, C₄.a.move (pw₅ G List.mem_cons_self) st₅.le⟩
    have s5 : St (i + 1) s₅.heap := keep (l₃.trans a1) S₄.ext st₅.le S₅.ext (fun b hb => pw₅ b (List.mem_cons_of_mem _ hb)) S₄.old S₅.old s4
    refine C₅.jd O rm hb fun c R₆ s₆ C₆ st₆ pw₆ e => ?_
    subst e
    have s6 : St (i + 1) s₆.heap := keep ((l₃.trans a1).trans st₅.le) S₅.ext st₆.le C₆.S.ext pw₆ S₅.old C₆.S.old s5
    cases c with
    | false =>
      obtain ⟨e1, e2⟩ := hd rfl
      exact ⟨n - (i + 1), by omega, i + 1, R₆, rfl, hlt, ⟨C₆.st, C₆.S.weaken e2, C₆.Y.weaken e2, e1 ▸ C₆.a⟩, s6⟩
    | true =>
      obtain ⟨d, he, e1, e2⟩ := hc rfl
      refine C₆.jd (t := fun env => eval elt env) (K := fun R' v => Rep w R' d v) O rm he fun x R₇ s₇ C₇ st₇ pw₇ r₇ => ?_
      have s7 : St (i + 1) s₇.heap := keep (((l₃.trans a1).trans st₅.le).trans st₆.le) C₆.S.ext st₇.le C₇.S.ext pw₇ C₆.S.old C₇.S.old s6
      refine C₇.append O hG r₇ e2 fun h₈ sb C₈ => ?_
      have lf := (((l₃.trans a1).trans st₅.le).trans st₆.le).trans st₇.le
      exact ⟨n - (i + 1), by omega, i + 1, R₇, rfl, hlt, e1 ▸ C₈, It.frame s7 (fun b hb o e => (sb.2 b fun q => hG (q ▸ hb)).trans e) (fun b hb => sb.2 b fun q => (hro b hb).2.1 (q ▸ List.mem_cons_self)) (lf.trans C₇.S.ext) (lf.trans C₈.S.ext)⟩
  · have : i = n := Nat.le_antisymm hin (Nat.not_lt.mp hlt)
    subst this
    refine It.done (l₃.trans C₃.S.ext) s3 fun h₄ t₄ a4 => ?_
    obtain ⟨S₄, _⟩ := C₃.S.growBut (t := t₄) (d := s₃.drawn) O C₃.Y (.of (wk a4)) (.refl _) (fun b o e => a4 b o (fun q => nomatch (C₃.Y.r b (List.mem_cons_of_mem _ q)).symm.trans e) (C₃.S.ext b o e)) fun b o e => .inl e
    exact ⟨R₃, rfl, C₃.st.trans .heap, S₄, C₃.a.move (fun o e => a4 _ o hG e) (.refl _), C₃.Y.r⟩
end
end Mine
end

noncomputable section
open PySem PySem.W PyProof.Rows
namespace Mine

section
variable {w : World} {k : Nat} {A : Around} {sc : Scope} {F : FrS} {h₀ R R' R'' h h' : Heap} {σ σ' σ₁ σ₂ σ₃ : St} {s s' s'' : Shared} {fn : Prop} {wr : List Addr}

/-- the run of a comprehension's loop -/
noncomputable def CompRun (w : World) (k : Nat) (sc : Scope) (σ : St) (e : PySem.Expr) (target : PySem.Expr) (n : Nat) (ds : Nat → D) (out : List D) : Prop :=
  ∀ {A : Around} {F : FrS} {h₀ R : Heap} {s : Shared} {I G : Addr} {wr ro : List Addr} {St : Nat → Heap → Prop} {Mid : Nat → Value → Heap → Prop}, Fresh F h₀ → Room k A → IterAt w A target R I wr ro n ds St Mid → (∀ a ∈ ro, a ∉ frs A ∧ a ∉ G :: wr ∧ ∃ o, h₀.get? a = some o) →
    OffW A F h₀ (G :: wr) → G ∉ wr → CSt w A sc F h₀ R s σ wr G [] R s → St 0 s.heap →
    codeAny (MM w) A (.compLoop e 0 (.ref I) (.ref G) (mkEnv sc F)) (fun r s' => ∃ σ' R', r = .ok .next ∧ Step h₀ R R' s s' ∧ Sat w A sc F h₀ σ' R' s' ∧ AccAt w G out R' s'.heap ∧ ∀ a ∈ G :: wr, R'.get? a = none) s

theorem compRun1 {elt target iter : PySem.Expr} {ifs : List PySem.Expr} {scope : Scope} {pos : Pos} {n : Nat} {ds : Nat → D} (σs : Nat → Mine.St) (out : Nat → List D) (h0 : out 0 = [])
    (turn : ∀ i, i < n → ∃ σt b σu, Asg w k sc False (σs i) target (ds i) σt ∧ Tests w k sc σt ifs b σu ∧ (b = true → ∃ d, Ev w k sc σu elt d (σs (i + 1)) ∧ out (i + 1) = out i ++ [d] ∧ (out i).length ≤ sizeLine) ∧ (b = false → out (i + 1) = out i ∧ ∀ x sl, (σs (i + 1)).lookup x = some sl → σu.lookup x = some sl))
    (ht : ∀ it v, letOwnedTupleGo target it v = pure () := by intro _ _; rfl) : CompRun w k sc (σs 0) (.ListComp elt [⟨target, iter, ifs, 0⟩] scope pos) target n ds (out n) :=
  fun lh rm It hro O hG C z => codeAny_mono (comp_loop1 σs out turn ht lh rm (.refl _) It hro O hG (h0 ▸ C) z) fun r s' ⟨R', e, st, S, a, q⟩ => ⟨_, R', e, st, S, a, q⟩

/-- iterated over, be the source frozen or own -/
noncomputable def ItersR (w : World) (k : Nat) (sc : Scope) (σ : St) (target iter : PySem.Expr) (n : Nat) (ds : Nat → D) (σ' : St) : Prop :=
  ∀ A F h₀ R s, Room k A → Sat w A sc F h₀ σ R s →
    wpAny (MM w) A (eval iter (mkEnv sc F)) (fun x s₁ => wpAny (MM w) A (pyIter x) (fun it s₂ => ∃ R' I wr ro St Mid, it = .ref I ∧ Step h₀ R R' s s₂ ∧ Sat w A sc F h₀ σ' R' s₂ ∧
      IterAt w A target R' I wr ro n ds St Mid ∧ St 0 s₂.heap ∧ OffW A F h₀ wr ∧ DynW sc F σ' R' s₂.heap wr ∧ ∀ a ∈ ro, a ∉ frs A ∧ a ∉ wr ∧ ∃ o, s₂.heap.get? a = some o) (fun _ _ => False) s₁) (fun _ _ => False) s
theorem Iters.r {target iter : PySem.Expr} {n : Nat} {ds : Nat → D} (h : Iters w k sc σ target iter n ds σ') : ItersR w k sc σ target iter n ds σ' := fun A F h₀ R s rm S =>
  wpAny_mono (h A F h₀ R s rm S) (fun x s₁ h₁ => wpAny_mono h₁ (fun it s₂ ⟨R', I, wr, St, Mid, a, b, c, d, e, f, g⟩ => ⟨R', I, wr, [], St, Mid, a, b, c, d, e, f, g, fun _ h => absurd h List.not_mem_nil⟩) fun _ _ e => e) fun _ _ e => e

/-- what a comprehension leaves, before its names go -/
structure CEnd (w : World) (A : Around) (sc : Scope) (F : FrS) (h₀ R : Heap) (s : Shared) (σ : St) (out : List D) (G C : Addr) (R' : Heap) (s' : Shared) : Prop where
  st : Step h₀ R R' s s'
  S : Sat w A sc F h₀ σ R' s'
  a : AccAt w G out R' s'.heap
  O : OffW A F h₀ [C, G]
  own : ∀ a ∈ [C, G], ∀ m x d, s'.heap.Ns F.L m → σ.lookup x = some (.own d) → ¬ At sc F s'.heap m x (.ref a)
  r : ∀ a ∈ [C, G], R'.get? a = none
  ne : C ≠ G
  ns : ∃ m, s'.heap.Ns C m

theorem relabel_lookup {scope sc : Scope} {x : Str} (h : (relabelS scope sc).names.lookup x = some .cell) (hc : ∀ y ∈ scope.names, y.2 ≠ .cell) : (x, NameKind.free) ∈ scope.names := by
  unfold relabelS at h
  dsimp only at h
  generalize scope.names = l at h hc
  induction l with
  | nil => cases h
  | cons p r ih =>
    obtain ⟨n, kd⟩ := p
    have ih := fun h => List.mem_cons_of_mem (n, kd) (ih h fun y hy => hc y (List.mem_cons_of_mem _ hy))
    rw [List.map_cons] at h
    by_cases hk : (kd == NameKind.free && sc.kind == .function && sc.names.lookup n == some .cell) = true
    · rw [if_pos hk, List.lookup_cons] at h
      cases hb : x == n with
      | true =>
        rw [beq_iff_eq] at hb; subst hb
        have : kd = .free := by simp only [Bool.and_eq_true, beq_iff_eq] at hk; exact hk.1.1
        rw [this]; exact List.mem_cons_self
      | false => rw [hb] at h; exact ih h
    · rw [if_neg hk, List.lookup_cons] at h
      cases hb : x == n with
      | true =>
        rw [hb] at h
        cases h
        exact (hc _ List.mem_cons_self rfl).elim
      | false => rw [hb] at h; exact ih h

/-- a comprehension's names from those of its frame -/
noncomputable def Inner (scope sc : Scope) (σ σi : St) : Prop := ∀ x sl, σi.lookup x = some sl → (∃ d, sl = .fz d) ∧ σ.lookup x = some sl ∧ (relabelS scope sc).names.lookup x = some .cell ∧ sc.names.lookup x = some .cell

theorem comp_core {e target iter : PySem.Expr} {ifs : List PySem.Expr} {gs : List Comprehension} {scope : Scope} {pos : Pos} {n : Nat} {ds : Nat → D} {out : List D} {σi : St} {use : Option (Value → Sem Unit)} {Q : Value → Shared → Prop}
    (hcl : clausesOf e = ⟨target, iter, ifs, 0⟩ :: gs) (hi : ItersR w k sc σ target iter n ds σ₁) (hin : Inner scope sc σ₁ σi) (hrun : CompRun w k (relabelS scope sc) σi e target n ds out)
    (hstart : ∀ {A : Around} {it acc : Value} {env : Env} {R : Result → Shared → Prop} {s : Shared}, codeAny (MM w) A (.compLoop e 0 it acc env) R s → wpAny (MM w) A (pyIter it) (fun it' s' => codeAny (MM w) A (.compLoop e 0 it' acc env) R s') (notedBy (MM w) A env fun x s' => R (.error x) s') s → codeAny (MM w) A (.compStart e 0 it acc env) R s)
    (hkind : scope.kind = .function) (hc : ∀ y ∈ scope.names, y.2 ≠ .cell) (hf : ∀ x, (x, NameKind.free) ∈ scope.names → sc.names.lookup x = some .cell) (hnames : ∀ x ∈ scope.names, x.2 = .local → scope.names.lookup x.1 = some .local)
    (hs : ∀ env x, foldedSetIterable iter env x = pure x) (rm : Room k A) (S : Sat w A sc F h₀ σ R s)
    (fin : ∀ G C R' s', CEnd w A sc F h₀ R s σ₁ out G C R' s' → compPost (MM w) A (fun _ _ => False) use Q (.ref G) C (.ok .next) s') :
    wpAny (MM w) A (comprehension e scope (mkEnv sc F) pos (newList []) false (eval iter (mkEnv sc F)) use) Q (fun _ _ => False) s := by
  have hcells : ∀ x, (x, NameKind.free) ∈ scope.names → ∃ c, F.cl.lookup x = some c := fun x hx => S.has x (hf x hx)
  refine wpAny_comprehension_free (cl := clo F.cl scope.names []) hcl (hs _) (closureFor_eq (env := mkEnv sc F) hcells) hkind hnames ?_
  refine wpAny_mono (hi A F h₀ R s rm S) (fun x s₁ h₁ => wpAny_mono h₁ (fun it s₂ h₂ => ?_) fun _ _ e => e.elim) fun _ _ e => e.elim
  obtain ⟨R₂, I, wr, ro, St, Mid, rfl, st₂, S₂, It, z, O, Y, hro⟩ := h₂
  have nG := get_size s₂.heap
  refine wpAny_newList ?_ (by simp)
  have l3 := Le.push s₂.heap ({ cls := .type "list", data := .seq ([] : List Value).toArray } : Obj)
  generalize eh3 : s₂.heap.push ({ cls := .type "list", data := .seq ([] : List Value).toArray } : Obj) = h₃ at l3
  have gG : h₃.get? s₂.heap.objs.size = some (seqObj "list" ([] : List Value).toArray 0) := by rw [← eh3]; exact Heap.get?_push_size _ rfl
  have nC := get_size h₃
  generalize eG : s₂.heap.objs.size = G at nG gG
  generalize eC : h₃.objs.size = C at nC
  have neCG : C ≠ G := fun q => by rw [q] at nC; exact (nomatch nC.symm.trans gG)
  refine wpAny_newFunctionEnv (s := { s₂ with heap := h₃ }) hc (fun _ h => absurd h List.not_mem_nil) (fun h₄ ns4 sb4 => ?_) hkind
  dsimp only at ns4 sb4
  rw [eC] at ns4 sb4
  simp only [Option.isSome_some, if_true] at sb4
  have l4 : Le h₃ h₄ := fun b o e => (sb4.2 b (fun q => by rw [q] at e; exact (nomatch nC.symm.trans e))).trans (Heap.get?_push_of_some _ e)
  let F' : FrS := ⟨C, clo F.cl scope.names [], F.q, none, F.cd, F.fr⟩
  let h₀i := only h₃ fun b => decide (b ∉ G :: wr)
  have i_some : ∀ {b o}, h₃.get? b = some o → b ∉ G :: wr → h₀i.get? b = some o := fun e n => only_some.mpr ⟨decide_eq_true n, e⟩
  have i_none : ∀ {b}, b ∈ G :: wr → h₀i.get? b = none := fun m => none_of fun o e => absurd m (of_decide_eq_true (only_some.mp e).1)
  have i_le : Le h₀i h₃ := only_le _ _
  have hG : G ∉ wr := fun q => by obtain ⟨o, ho⟩ := Y.live G q; exact nomatch nG.symm.trans ho
  have clsub : ∀ x c, F'.cl.lookup x = some c → F.cl.lookup x = some c := fun x c e => clo_sub _ _ hcells (fun _ _ h => by cases h) e
  have offG := S₂.off_new nG
  have offC := S₂.off_new (a := C) (none_of fun o e => nomatch nC.symm.trans (l3 _ _ e))
  have h₀p : Pres (frs A) h₀ h₀i := fun b o e => by
    obtain ⟨q1, o', q2, q3⟩ := S₂.old b o e
    have nb : b ∉ G :: wr := fun m => by
      rcases List.mem_cons.mp m with q | m
      · subst q; exact nomatch nG.symm.trans q2
      · exact nomatch (O.h b m).symm.trans e
    exact ⟨fun n => i_some (l3 _ _ (q1 n)) nb, o', i_some (l3 _ _ q2) nb, q3⟩
  have S₄ : Sat w A (relabelS scope sc) F' h₀i σi R₂ { s₂ with heap := h₄, toks := s₂.toks } := by
    have Sk := S₂.keep (h' := h₄) (t := s₂.toks) (d := s₂.drawn) (l3.trans l4)
    refine { fr := Sk.fr, base := S₂.base.mono h₀p, old := .of_le (i_le.trans l4), ext := Sk.ext, roff := S₂.roff, lr := offC.r, cells := ?_, has := ?_, vars := ⟨_, ns4, ?_, ?_, ?_⟩ }
    · exact { is := fun x c e => Sk.cells.is x c (clsub x c e), r := fun x c e => S₂.cells.r x c (clsub x c e), l := fun x c e => offC.c x c (clsub x c e), p := fun x c e => S₂.cells.p x c (clsub x c e), inj := fun x y c e e' => S₂.cells.inj x y c (clsub x c e) (clsub y c e') }
    · exact fun x hx => clo_has _ _ (.inl (relabel_lookup hx hc))
    · intro x sl e
      obtain ⟨⟨d, rfl⟩, q1, q2, q3⟩ := hin x sl e
      obtain ⟨m, V⟩ := Sk.vars
      obtain ⟨v, at_, ok⟩ := V.at_ x _ q1
      cases ok with
      | fz r =>
        refine ⟨v, ?_, .fz r⟩
        obtain ⟨c, hcx⟩ := clo_has (cells := F.cl) (x := x) scope.names [] (.inl (relabel_lookup q2 hc))
        refine .cel q2 hcx ?_
        rcases at_ with ⟨k, e⟩ | ⟨k, e, i⟩ | ⟨k, e, i⟩
        · exact nomatch q3.symm.trans k
        · have := clsub x c hcx; rw [e] at this; cases this; exact i
        · exact nomatch q3.symm.trans k
    · intro x d a e
      obtain ⟨⟨d', q⟩, _⟩ := hin x _ e; cases q
    · intro x y d e' a e
      obtain ⟨⟨d', q⟩, _⟩ := hin x _ e; cases q
  have O' : OffW A F' h₀i (G :: wr) := ⟨fun a ha => i_none ha, fun a ha => by
      rcases List.mem_cons.mp ha with q | ha
      · exact q ▸ neCG.symm
      · intro q; obtain ⟨o, ho⟩ := Y.live a ha; have q : a = C := q; rw [q] at ho; exact (nomatch nC.symm.trans (l3 _ _ ho)), fun a ha y c e => by
      rcases List.mem_cons.mp ha with q | ha
      · exact q ▸ offG.c y c (clsub y c e)
      · exact O.c a ha y c (clsub y c e), fun a ha => by
      rcases List.mem_cons.mp ha with q | ha
      · exact q ▸ offG.p
      · exact O.p a ha⟩
  have Y' : DynW (relabelS scope sc) F' σi R₂ h₄ (G :: wr) := ⟨fun a ha => by
      rcases List.mem_cons.mp ha with q | ha
      · exact q ▸ offG.r
      · exact Y.r a ha, fun a ha => by
      rcases List.mem_cons.mp ha with q | ha
      · exact ⟨_, l4 _ _ (q ▸ gG)⟩
      · obtain ⟨o, ho⟩ := Y.live a ha; exact ⟨o, l4 _ _ (l3 _ _ ho)⟩, fun a _ m x d _ e => by obtain ⟨⟨d', q⟩, _⟩ := hin x _ e; cases q⟩
  have z4 : St 0 h₄ := It.frame z (fun b hb o e => l4 _ _ (l3 _ _ e)) (fun b hb => by
    obtain ⟨_, _, o, ho⟩ := hro b hb; rw [ho]; exact l4 _ _ (l3 _ _ ho)) S₂.ext (S₂.ext.trans (l3.trans l4))
  have hro' : ∀ a ∈ ro, a ∉ frs A ∧ a ∉ G :: wr ∧ ∃ o, h₀i.get? a = some o := fun a ha => by
    obtain ⟨q1, q2, o, q3⟩ := hro a ha
    have q4 : a ∉ G :: wr := fun m => by
      rcases List.mem_cons.mp m with q | m
      · subst q; exact nomatch nG.symm.trans q3
      · exact q2 m
    exact ⟨q1, q4, o, i_some (l3 _ _ q3) q4⟩
  have main := hrun (F := F') (s := { s₂ with heap := h₄, toks := s₂.toks }) ⟨none_of fun o e => (nomatch nC.symm.trans (i_le _ _ e)), fun h => (nomatch h)⟩ rm It hro' O' hG ⟨.refl .., S₄, Y', ⟨[], 0, l4 _ _ gG, .nil⟩⟩ z4
  have main := codeAny_mono (R' := compPost (MM w) A (fun _ _ => False) use Q (.ref G) C) main fun r s' ⟨σe, R', e, st, S', a', rn⟩ => by
    subst e
    have p4 : PresBut (frs A) ([C, G] ++ wr) s₂.heap s'.heap := fun b o nb e => by
      simp only [List.cons_append, List.nil_append, List.mem_cons, not_or] at nb
      exact S'.old b o (i_some (l3 _ _ e) (by rw [List.mem_cons, not_or]; exact nb.2))
    have O2 : OffW A F h₀ ([C, G] ++ wr) := by
      have : ∀ {P : Addr → Prop}, P C → P G → (∀ a ∈ wr, P a) → ∀ a ∈ [C, G] ++ wr, P a := fun h1 h2 h3 a ha => by
        simp only [List.cons_append, List.nil_append, List.mem_cons] at ha
        rcases ha with q | q | q
        · exact q ▸ h1
        · exact q ▸ h2
        · exact h3 a q
      exact ⟨this offC.h offG.h O.h, this offC.l offG.l O.l, this offC.c offG.c O.c, this offC.p offG.p O.p⟩
    have nC2 : s₂.heap.get? C = none := none_of fun o e => nomatch nC.symm.trans (l3 _ _ e)
    obtain ⟨h5, t5, d5, e5⟩ := st.same
    obtain ⟨S₅, own5⟩ := S₂.growBut0 (h' := h5) (t := t5) (d := d5) O2 (fun a ha m x d hn q i => by
      simp only [List.cons_append, List.nil_append, List.mem_cons] at ha
      rcases ha with z | z | z
      · exact S₂.notOwn nC2 hn q (z ▸ i)
      · exact S₂.notOwn nG hn q (z ▸ i)
      · exact Y.own a z m x d hn q i) (by rw [e5] at p4; exact p4) st.le (by have := S'.ext; rw [e5] at this; exact this) (fun b o e => (st.new b o e).imp id fun q => none_of fun o' q' => by
        have : b ∈ G :: wr := Decidable.byContradiction fun nb => nomatch q.symm.trans (i_some (l3 _ _ q') nb)
        exact nomatch (rn b this).symm.trans e)
    have e6 : s' = { s₂ with heap := h5, toks := t5, drawn := d5 } := e5
    refine fin G C R' s' ⟨st₂.trans ⟨st.le, fun b o e => (st.new b o e).imp id fun q => none_of fun o' q' => ?_, h5, t5, d5, e6⟩, e6 ▸ S₅, a', ⟨fun a ha => O2.h a (List.mem_append_left _ ha), fun a ha => O2.l a (List.mem_append_left _ ha), fun a ha => O2.c a (List.mem_append_left _ ha), fun a ha => O2.p a (List.mem_append_left _ ha)⟩,
      fun a ha => by rw [e6]; exact own5 a (List.mem_append_left _ ha), fun a ha => ?_, neCG, let ⟨m, V⟩ := S'.vars; ⟨m, V.ns⟩⟩
    · obtain ⟨_, o'', e'', _⟩ := h₀p b o' q'; exact nomatch q.symm.trans e''
    · rcases List.mem_cons.mp ha with q | ha
      · exact q ▸ S'.lr
      · rw [List.mem_singleton] at ha; exact rn a (ha ▸ List.mem_cons_self)
  subst eC
  exact hstart main (It.self z4 main)

theorem CEnd.drop {out : List D} {G C : Addr} (E : CEnd w A sc F h₀ R s σ out G C R' s') (hsb : Heap.SameBut C s'.heap h') :
    ∃ R' a, Step h₀ R R' s { s' with heap := h' } ∧ Sat w A sc F h₀ σ R' { s' with heap := h' } ∧ Value.ref G = .ref a ∧ Own w h' R' (.list out) a ∧ Off A F h₀ R' a ∧
      (∀ m x e, h'.Ns F.L m → σ.lookup x = some (.own e) → ¬ At sc F h' m x (.ref a)) := by
  have k : ∀ b o, b ∉ [C, G] → s'.heap.get? b = some o → h'.get? b = some o := fun b o nb e => (hsb.2 b fun q => nb (q ▸ List.mem_cons_self)).trans e
  obtain ⟨S₁, own₁⟩ := E.S.growBut0 (t := s'.toks) (d := s'.drawn) E.O E.own (.of k) (.refl _) (fun b o e => k b o (fun q => nomatch (E.r b q).symm.trans e) (E.S.ext b o e)) fun b o e => .inl e
  have hG : G ∈ [C, G] := by simp
  obtain ⟨vs, n, e, r⟩ := E.a
  exact ⟨R', G, E.st.trans .heap, S₁, rfl, .list ((hsb.2 G E.ne.symm).trans e) r, ⟨E.O.h G hG, E.r G hG, E.O.l G hG, E.O.c G hG, E.O.p G hG⟩, fun m x d hn q => own₁ G hG m x d hn q⟩

/-- a list made by a comprehension -/
theorem evN_comp {elt target iter : PySem.Expr} {ifs : List PySem.Expr} {gs : List Comprehension} {scope : Scope} {pos : Pos} {n : Nat} {ds : Nat → D} {out : List D} {σi : St}
    (hi : ItersR w k sc σ target iter n ds σ₁) (hin : Inner scope sc σ₁ σi) (hrun : CompRun w k (relabelS scope sc) σi (.ListComp elt (⟨target, iter, ifs, 0⟩ :: gs) scope pos) target n ds out)
    (hkind : scope.kind = .function := by rfl) (hc : ∀ y ∈ scope.names, y.2 ≠ .cell := by decide) (hf : ∀ x, (x, NameKind.free) ∈ scope.names → sc.names.lookup x = some .cell) (hnames : ∀ x ∈ scope.names, x.2 = .local → scope.names.lookup x.1 = some .local)
    (hs : ∀ env x, foldedSetIterable iter env x = pure x := by intro _ _; rfl) : EvN w k sc σ (.ListComp elt (⟨target, iter, ifs, 0⟩ :: gs) scope pos) (.list out) σ₁ := fun A F h₀ R s rm S => by
  rw [eval_ListComp]
  refine comp_core rfl hi hin hrun (fun h0 h => codeAny_compStart_list h0 h) hkind hc hf hnames hs rm S fun G C R' s' E => ?_
  exact ⟨E.ns.choose, E.ns.choose_spec, fun h' hsb => E.drop hsb⟩

/-- the frame's own thing is stored -/
theorem ex_assign_own {x : Str} {p pos : Pos} {value : PySem.Expr} {d : D} (h : EvN w k sc σ value d σ₁) (hx : sc.names.lookup x = some .local) (hk : sc.kind = .function := by rfl)
    (hs : ∀ sc F, swapsWith value (some (.Name x p)) pos.line (mkEnv sc F) = pure false := by intro _ _; rfl) : Ex w k sc σ (.Assign [.Name x p] value pos) .next (put σ₁ x (.own d)) := fun A F h₀ R s hf lh rm S => by
  refine wpAny_Assign_Name (wpAny_mono (h A F h₀ R s rm S) (fun v s₁ h₁ => ?_) fun _ _ e => e.elim) (hs _ _)
  obtain ⟨R₁, a, st₁, S₁, rfl, o, O, no⟩ := h₁
  obtain ⟨m, V⟩ := S₁.vars
  exact wpAny_storeName_local hx V.ns (fun h' hn hsb => ⟨R₁, st₁.trans .heap, S₁.storeL lh.L hx V.ns hn hsb (.own o) (fun d a e1 e2 => by cases e1; cases e2; exact ⟨O, fun y e q => no m y e V.ns q⟩), .next⟩)
    (by show (sc.kind == .class || (sc.kind == .module && F.L != mainGlobals)) = false; rw [hk]; rfl)

/-- a comprehension's list is stored: the store comes first -/
theorem ex_assign_comp {x : Str} {p apos : Pos} {elt target iter : PySem.Expr} {ifs : List PySem.Expr} {gs : List Comprehension} {scope : Scope} {pos : Pos} {n : Nat} {ds : Nat → D} {out : List D} {σi : St}
    (hi : ItersR w k sc σ target iter n ds σ₁) (hin : Inner scope sc σ₁ σi) (hrun : CompRun w k (relabelS scope sc) σi (.ListComp elt (⟨target, iter, ifs, 0⟩ :: gs) scope pos) target n ds out) (hx : sc.names.lookup x = some .local)
    (hf : ∀ x, (x, NameKind.free) ∈ scope.names → sc.names.lookup x = some .cell) (hnames : ∀ x ∈ scope.names, x.2 = .local → scope.names.lookup x.1 = some .local)
    (hkind : scope.kind = .function := by rfl) (hc : ∀ y ∈ scope.names, y.2 ≠ .cell := by decide) (hk : sc.kind = .function := by rfl)
    (hs : ∀ env x, foldedSetIterable iter env x = pure x := by intro _ _; rfl)
    (hsw : ∀ F, swapsWith (.ListComp elt (⟨target, iter, ifs, 0⟩ :: gs) scope pos) (some (.Name x p)) apos.line (mkEnv sc F) = pure true := by intro _; rfl) :
    Ex w k sc σ (.Assign [.Name x p] (.ListComp elt (⟨target, iter, ifs, 0⟩ :: gs) scope pos) apos) .next (put σ₁ x (.own (.list out))) := fun A F h₀ R s hfn lh rm S => by
  rw [exec_Assign_Name_used _ _ _ _ (hsw F)]
  refine wpAny_bind (wpAny_standAt ?_)
  show wpAny (MM w) A ((comprehension (.ListComp elt (⟨target, iter, ifs, 0⟩ :: gs) scope pos) scope (mkEnv sc F) (firstIterPos (⟨target, iter, ifs, 0⟩ :: gs) pos) (newList []) false (eval iter (mkEnv sc F)) (some (assign (.Name x p) (mkEnv sc F))) >>= fun _ => pure ()) >>= fun _ => pure Flow.next) _ _ s
  refine wpAny_bind (wpAny_bind (comp_core (use := some (assign (.Name x p) (mkEnv sc F))) rfl hi hin hrun (fun h0 h => codeAny_compStart_list h0 h) hkind hc hf hnames hs rm S fun G C R' s' E => ?_))
  show wpAny (MM w) A (assign (.Name x p) (mkEnv sc F) (.ref G)) _ _ s'
  obtain ⟨m, V⟩ := E.S.vars
  obtain ⟨vs, n', eG, r⟩ := E.a
  have hG : G ∈ [C, G] := by simp
  have hC : C ∈ [C, G] := by simp
  have offG : Off A F h₀ R' G := ⟨E.O.h G hG, E.r G hG, E.O.l G hG, E.O.c G hG, E.O.p G hG⟩
  refine wpAny_bind (wpAny_standAt (wpAny_bindName (wpAny_storeName_local hx V.ns (fun h' hn hsb => ?_) (by show (sc.kind == .class || (sc.kind == .module && F.L != mainGlobals)) = false; rw [hk]; rfl))))
  have S₁ := E.S.storeL (t := s'.toks + 1) lh.L hx V.ns hn hsb (.own (.list eG r)) (fun d a e1 e2 => by cases e1; cases e2; exact ⟨offG, fun y e q => E.own G hG m y e V.ns q⟩)
  obtain ⟨mC, nC⟩ := E.ns
  refine ⟨mC, nC.sameBut hsb (E.O.l C hC), fun h'' hsb' => ?_⟩
  have k : ∀ b o, b ∉ [C] → h'.get? b = some o → h''.get? b = some o := fun b o nb e => (hsb'.2 b fun q => nb (q ▸ List.mem_cons_self)).trans e
  have OC : OffW A F h₀ [C] := ⟨fun a ha => E.O.h a (by rw [List.mem_singleton] at ha; exact ha ▸ hC), fun a ha => E.O.l a (by rw [List.mem_singleton] at ha; exact ha ▸ hC), fun a ha => E.O.c a (by rw [List.mem_singleton] at ha; exact ha ▸ hC), fun a ha => E.O.p a (by rw [List.mem_singleton] at ha; exact ha ▸ hC)⟩
  have own' : ∀ a ∈ [C], ∀ m d' dd, ({ s' with heap := h', toks := s'.toks + 1 } : Shared).heap.Ns F.L m → (put σ₁ x (.own (.list out))).lookup d' = some (.own dd) → ¬ At sc F h' m d' (.ref a) := by
    intro a ha m' y d hn' q i
    rw [List.mem_singleton] at ha; subst ha
    have := ns_inj hn' hn; subst this
    rw [lookup_put] at q
    by_cases ey : y = x
    · subst ey
      rcases i with ⟨k', e⟩ | ⟨k', e, i⟩ | ⟨k', e, i⟩
      · simp at e; exact E.ne e.symm
      · exact nomatch hx.symm.trans k'
      · exact nomatch hx.symm.trans k'
    · rw [if_neg ey] at q
      refine E.own a hC m y d V.ns q ?_
      have nl : ∀ b o, b ≠ F.L → s'.heap.get? b = some o → h'.get? b = some o := fun b o ne e => (hsb.2 b ne).trans e
      have i' : At sc F s'.heap (fun y => if y = x then some (Value.ref G) else m y) y (.ref a) := At.bwd E.S.cells.is (fun y c v e ⟨o, ho, hd⟩ => ⟨o, nl c o (E.S.cells.l y c e) ho, hd⟩) i
      rcases i' with ⟨k', e⟩ | ⟨k', e, i⟩ | ⟨k', e, i⟩
      · exact .loc k' (by simpa [ey] using e)
      · exact .cel k' e i
      · exact .fre k' e i
  obtain ⟨S₂, _⟩ := S₁.growBut0 (h' := h'') (t := s'.toks + 1) (d := s'.drawn) OC own' (.of k) (.refl _) (fun b o e => k b o (fun q => by rw [List.mem_singleton] at q; rw [q] at e; exact (nomatch (E.r C hC).symm.trans e)) (S₁.ext b o e)) fun b o e => .inl e
  exact wpAny_pure (wpAny_pure ⟨R', E.st.trans .heap, S₂, .next⟩)
end
end Mine
end

noncomputable section
open PySem PySem.W PyProof.Rows
namespace Mine

section
variable {w : World} {k : Nat} {A : Around} {sc : Scope} {F : FrS} {h₀ R R' R'' h h' : Heap} {σ σ' σ₁ σ₂ σ₃ : St} {s s' s'' : Shared} {fn : Prop} {wr : List Addr}

/-! texts -/
theorem op_add_str {x y : Str} (hz : x.length + y.length ≤ sizeLine) : Op2 w k (binaryOp .Add) (.str x) (.str y) (.str (x ++ y)) := fun A R s va vb c ra rb => by
  cases ra; cases rb
  exact PyProof.Rows.add_str (fun t' tk => ⟨R, .tok c _, .str _ _⟩) hz
theorem op_iadd_str {x y : Str} (hz : x.length + y.length ≤ sizeLine) : Op2 w k (inplaceOp .Add) (.str x) (.str y) (.str (x ++ y)) := fun A R s va vb c ra rb => by
  cases ra; cases rb
  exact PyProof.Rows.iadd_str (fun t' tk => ⟨R, .tok c _, .str _ _⟩) hz
theorem op_ne_str {x y : Str} : Op2 w k (compareOp .NotEq) (.str x) (.str y) (.bool (x != y)) := fun A R s va vb c ra rb => by
  cases ra; cases rb
  exact PyProof.Rows.ne_str ⟨R, .refl c, .bool _⟩
theorem op_lt_str {x y : Str} : Op2 w k (compareOp .Lt) (.str x) (.str y) (.bool (x.cps.toList < y.cps.toList)) := fun A R s va vb c ra rb => by
  cases ra; cases rb
  exact PyProof.Rows.lt_str ⟨R, .refl c, .bool _⟩
theorem op_mul_str {x : Str} {n : Int} (hok : MulOk x n) : Op2 w k (binaryOp .Mult) (.str x) (.int n) (.str (Txt.mul x n)) := fun A R s va vb c ra rb => by
  cases ra; cases rb
  exact SB.mul hok fun t' j => ⟨R, .tok c _, .str _ _⟩
theorem truth_str {x : Str} (hz : x.length ≤ sizeLine) : Truth w k (.str x) ((x.length : Int) != 0) := fun A R s v c r => by
  cases r
  exact P.truthy_str (by simp only [sizeLine] at hz; omega) ⟨rfl, .tok c _⟩
theorem op_len_str {x : Str} (hz : x.length ≤ sizeLine) : OpL w k (fun vs => call (.builtin "len") vs) [.str x] (.int x.length) := fun A R s vs c r => by
  replace r := r.cons_inv
  obtain ⟨_, _, rfl, r, n⟩ := r
  cases n; cases r; exact PyProof.Rows.len_str (by simp only [sizeLine] at hz; omega) ⟨R, .tok c _, .int _ _⟩
theorem meth_startswith {x : Str} : Meth w (.str x) "startswith" (.builtin "str.startswith") := fun _ r h => by cases r; exact GM.startswith h
theorem op_startswith {x y : Str} : OpL w k (fun vs => call (.builtin "str.startswith") vs) [.str x, .str y] (.bool (Txt.startswith x y)) := fun A R s vs c r => by
  replace r := r.cons_inv
  obtain ⟨_, _, rfl, r, n⟩ := r
  replace n := n.cons_inv
  obtain ⟨_, _, rfl, r', n⟩ := n
  cases n; cases r; cases r'; exact SC.startswith ⟨R, .refl c, .bool _⟩
theorem meth_endswith {x : Str} : Meth w (.str x) "endswith" (.builtin "str.endswith") := fun _ r h => by cases r; exact GM.endswith h
theorem op_endswith {x y : Str} : OpL w k (fun vs => call (.builtin "str.endswith") vs) [.str x, .str y] (.bool (Txt.endswith x y)) := fun A R s vs c r => by
  replace r := r.cons_inv
  obtain ⟨_, _, rfl, r, n⟩ := r
  replace n := n.cons_inv
  obtain ⟨_, _, rfl, r', n⟩ := n
  cases n; cases r; cases r'; exact SC.endswith ⟨R, .refl c, .bool _⟩
theorem meth_count {x : Str} : Meth w (.str x) "count" (.builtin "str.count") := fun _ r h => by cases r; exact GM.count h
theorem op_count {x y : Str} : OpL w k (fun vs => call (.builtin "str.count") vs) [.str x, .str y] (.int (Txt.count x y)) := fun A R s vs c r => by
  replace r := r.cons_inv
  obtain ⟨_, _, rfl, r, n⟩ := r
  replace n := n.cons_inv
  obtain ⟨_, _, rfl, r', n⟩ := n
  cases n; cases r; cases r'; exact SC.count ⟨R, .tok c _, .int _ _⟩
theorem meth_rfind {x : Str} : Meth w (.str x) "rfind" (.builtin "str.rfind") := fun _ r h => by cases r; exact GM.rfind h
theorem op_rfind {x y : Str} : OpL w k (fun vs => call (.builtin "str.rfind") vs) [.str x, .str y] (.int (Txt.rfind x y)) := fun A R s vs c r => by
  replace r := r.cons_inv
  obtain ⟨_, _, rfl, r, n⟩ := r
  replace n := n.cons_inv
  obtain ⟨_, _, rfl, r', n⟩ := n
  cases n; cases r; cases r'; exact SC.rfind ⟨R, .tok c _, .int _ _⟩
theorem meth_rstrip {x : Str} : Meth w (.str x) "rstrip" (.builtin "str.rstrip") := fun _ r h => by cases r; exact GM.rstrip h
theorem op_rstrip {x y : Str} (hz : x.length ≤ sizeLine) : OpL w k (fun vs => call (.builtin "str.rstrip") vs) [.str x, .str y] (.str (Txt.rstripChars x y)) := fun A R s vs c r => by
  replace r := r.cons_inv
  obtain ⟨_, _, rfl, r, n⟩ := r
  replace n := n.cons_inv
  obtain ⟨_, _, rfl, r', n⟩ := n
  cases n; cases r; cases r'; exact SCL.rstripChars (fun t' j _ => ⟨R, .tok c _, .str _ _⟩) hz

/-! ints -/
theorem op_add_int {a b : Int} : Op2 w k (binaryOp .Add) (.int a) (.int b) (.int (a + b)) := fun A R s va vb c ra rb => by
  cases ra; cases rb; exact PyProof.Rows.add_int ⟨R, .tok c _, .int _ _⟩
theorem op_sub_int {a b : Int} : Op2 w k (binaryOp .Sub) (.int a) (.int b) (.int (a - b)) := fun A R s va vb c ra rb => by
  cases ra; cases rb; exact PyProof.Rows.sub_int ⟨R, .tok c _, .int _ _⟩
theorem op_mod_int {a b : Int} (h : b ≠ 0) : Op2 w k (binaryOp .Mod) (.int a) (.int b) (.int (a.fmod b)) := fun A R s va vb c ra rb => by
  cases ra; cases rb; exact PyProof.Rows.mod_int h ⟨R, .tok c _, .int _ _⟩
theorem op_eq_int {a b : Int} : Op2 w k (compareOp .Eq) (.int a) (.int b) (.bool (a == b)) := fun A R s va vb c ra rb => by
  cases ra; cases rb; exact PyProof.Rows.eq_int ⟨R, .refl c, .bool _⟩

/-! parts of texts -/
noncomputable def EvP (w : World) (k : Nat) (sc : Scope) (σ : St) (e : Option PySem.Expr) (i : Option Int) (σ' : St) : Prop :=
  Jd w k sc σ (fun env => evalPart e env) (fun _ v => ∃ p, v = partValue p ∧ p.map (·.1) = i) σ'
theorem evp_none : EvP w k sc σ none none σ := fun A F h₀ R s rm S => wpAny_pure ⟨R, .refl .., S, none, rfl, rfl⟩
theorem evp_some {e : PySem.Expr} {i : Int} (h : Ev w k sc σ e (.int i) σ') : EvP w k sc σ (some e) (some i) σ' := fun A F h₀ R s rm S =>
  wpAny_mono (h A F h₀ R s rm S) (fun v s' ⟨R', st, S', r⟩ => by cases r with | int i t => exact ⟨R', st, S', some (i, t), rfl, rfl⟩) fun _ _ e => e
theorem ev_slice_str {value : PySem.Expr} {lo hi : Option PySem.Expr} {p pos : Pos} {x : Str} {l u : Option Int} (hv : Ev w k sc σ value (.str x) σ₁) (hl : EvP w k sc σ₁ lo l σ₂) (hu : EvP w k sc σ₂ hi u σ₃) (hz : x.length ≤ sizeLine)
    (ht : ∀ o r, letTemporaryGo value o r = pure () := by intro _ _; rfl) : Ev w k sc σ (.Subscript value (.Slice lo hi none p) pos) (.str (Txt.slice x l u)) σ₃ := fun A F h₀ R s rm S =>
  wpAny_Subscript_str_slice (wp_then (hv A F h₀ R s rm S) fun o R₁ s₁ st₁ S₁ q₁ => wp_then (hl A F h₀ R₁ s₁ rm S₁) fun vl R₂ s₂ st₂ S₂ q₂ => wp_then (hu A F h₀ R₂ s₂ rm S₂) fun vu R₃ s₃ st₃ S₃ q₃ => by
    replace q₁ := q₁.str_inv
    obtain ⟨t, rfl⟩ := q₁
    obtain ⟨pl, rfl, el⟩ := q₂
    obtain ⟨pu, rfl, eu⟩ := q₃
    subst el; subst eu
    exact ⟨x, t, pl, pu, rfl, rfl, rfl, post_val_or_str ⟨Nat.le_trans (Txt.slice_le x _ _) hz, fun t' j => ⟨R₃, ((st₁.trans st₂).trans st₃).trans .heap, S₃.push _, .str _ _⟩⟩⟩) ht
theorem evN_slice_list {value : PySem.Expr} {lo hi : Option PySem.Expr} {p pos : Pos} {ds : List D} {l u : Option Int} (hv : Ev w k sc σ value (.list ds) σ₁) (hl : EvP w k sc σ₁ lo l σ₂) (hu : EvP w k sc σ₂ hi u σ₃) (hz : ds.length ≤ sizeLine)
    {ds' : List D} (hp : ∀ {R : Heap} {vs : List Value}, RepL w R ds vs → RepL w R ds' (slicePick vs.toArray l u none).toList)
    (ht : ∀ o r, letTemporaryGo value o r = pure () := by intro _ _; rfl) : Ev w k sc σ (.Subscript value (.Slice lo hi none p) pos) (.list ds') σ₃ := fun A F h₀ R s rm S =>
  wpAny_Subscript_list_slice (wp_then (hv A F h₀ R s rm S) fun o R₁ s₁ st₁ S₁ q₁ => wp_then (hl A F h₀ R₁ s₁ rm S₁) fun vl R₂ s₂ st₂ S₂ q₂ => wp_then (hu A F h₀ R₂ s₂ rm S₂) fun vu R₃ s₃ st₃ S₃ q₃ => by
    replace q₁ := q₁.list_inv
    obtain ⟨a, vs, rfl, hL, rs⟩ := q₁
    obtain ⟨pl, rfl, el⟩ := q₂
    obtain ⟨pu, rfl, eu⟩ := q₃
    have ip : ∀ p : Option (Int × Tok), IsPart (partValue p) (p.map (·.1)) := fun p => by cases p with
      | none => exact .none
      | some q => exact .int q.1 q.2
    refine ⟨a, vs.toArray, l, u, rfl, isList_mono S₃.ext (isList_mono (st₂.le.trans st₃.le) hL), by rw [List.size_toArray, rs.length]; exact hz, el ▸ ip pl, eu ▸ ip pu, ?_⟩
    have l1 := Le.push s₃.heap ({ cls := .type "slice", data := .fields #[partValue pl, partValue pu, .none] } : Obj)
    have l2 := Le.push (s₃.heap.push ({ cls := .type "slice", data := .fields #[partValue pl, partValue pu, .none] } : Obj)) ({ cls := .type "list", data := .seq (slicePick vs.toArray l u none) } : Obj)
    have n : s₃.heap.get? (s₃.heap.objs.size + 1) = none := none_of fun o e => absurd (Heap.lt_size e) (Nat.not_lt.mpr (Nat.le_succ _))
    have g : ((s₃.heap.push ({ cls := .type "slice", data := .fields #[partValue pl, partValue pu, .none] } : Obj)).push ({ cls := .type "list", data := .seq (slicePick vs.toArray l u none) } : Obj)).get? (s₃.heap.objs.size + 1) = some ({ cls := .type "list", data := .seq (slicePick vs.toArray l u none) } : Obj) := by
      have := Heap.get?_push_size (s₃.heap.push ({ cls := .type "slice", data := .fields #[partValue pl, partValue pu, .none] } : Obj)) (o := ({ cls := .type "list", data := .seq (slicePick vs.toArray l u none) } : Obj)) rfl
      rwa [Heap.size_push] at this
    exact ⟨_, ((st₁.trans st₂).trans st₃).trans (Step.pushR (t := s₃.toks) (d := s₃.drawn) S₃ (l1.trans l2) n), S₃.pushR (l1.trans l2) n, .list ⟨_, addR_self (S₃.ext.trans (l1.trans l2)) g, rfl, 0, by simp⟩ (hp ((rs.mono (st₂.le.trans st₃.le)).mono (addR_le (S₃.ext.trans (l1.trans l2)) _)))⟩) ht

/-! statements with names -/
theorem ex_aug {x : Str} {p pos : Pos} {op : Operator} {value : PySem.Expr} {d dv d' : D} (q : σ.lookup x = some (.fz d)) (hv : Ev w k sc σ value dv σ₁) (q' : σ₁.lookup x = some (.fz d) ) (ho : Op2 w k (inplaceOp op) d dv d') (hx : sc.names.lookup x = some .local) (hk : sc.kind = .function := by rfl) :
    Ex w k sc σ (.AugAssign (.Name x p) op value pos) .next (put σ₁ x (.fz d')) := fun A F h₀ R s hf lh rm S => by
  obtain ⟨m, V⟩ := S.vars
  obtain ⟨v, a, ok⟩ := V.at_ x _ q
  cases ok with
  | fz r =>
    have a' : m x = some v := by
      rcases a with ⟨k', e⟩ | ⟨k', e, i⟩ | ⟨k', e, i⟩
      · exact e
      · exact nomatch hx.symm.trans k'
      · exact nomatch hx.symm.trans k'
    refine wpAny_AugAssign_Name (wpAny_loadName_local hk hx V.ns a' (wp_then (hv A F h₀ R s rm S) fun u R₁ s₁ st₁ S₁ q₁ => wp_then (S₁.gives (ho A R₁ s₁ v u (S₁.cx rm) (r.mono st₁.le) q₁)) fun z R₂ s₂ st₂ S₂ q₂ => ?_))
    exact wpAny_mono (store_local S₂ lh q₂ hx hk) (fun _ s₃ ⟨R₃, st₃, S₃⟩ => ⟨R₃, (st₁.trans st₂).trans st₃, S₃, .next⟩) fun _ _ e => e.elim
theorem ex_try {body orelse : List Stmt} {h₁ : ExceptHandler} {hs : List ExceptHandler} {pos : Pos} (h : Exs w k sc σ body .next σ') : Ex w k sc σ (.Try body (h₁ :: hs) [] [] pos) .next σ' := fun A F h₀ R s hf lh rm S =>
  wpAny_Try_except (wpAny_mono (h A F h₀ R s hf lh rm S) (fun f s' ⟨R', st, S', q⟩ => by cases q; exact wpAny_execs_nil ⟨R', st, S', .next⟩) fun _ _ e => e.elim)
theorem ex_try_ret {body : List Stmt} {h₁ : ExceptHandler} {hs : List ExceptHandler} {pos : Pos} {d : D} (h : Exs w k sc σ body (.ret d) σ') : Ex w k sc σ (.Try body (h₁ :: hs) [] [] pos) (.ret d) σ' := fun A F h₀ R s hf lh rm S =>
  wpAny_Try_except (wpAny_mono (h A F h₀ R s hf lh rm S) (fun f s' ⟨R', st, S', q⟩ => by cases q with | ret r => exact ⟨R', st, S', .ret r⟩) fun _ _ e => e.elim)
end
end Mine
end

noncomputable section
open PySem PySem.W PyProof.Rows
namespace Mine
section
variable {w : World} {k : Nat} {A : Around} {sc : Scope} {F : FrS} {h₀ R R' R'' h h' : Heap} {σ σ' σ₁ σ₂ σ₃ : St} {s s' s'' : Shared} {fn : Prop} {wr : List Addr}
theorem op_type_str {x : Str} : OpL w k (fun vs => call (.type "type") vs) [.str x] (.val (.type "str")) := fun A R s vs c r => by
  replace r := r.cons_inv
  obtain ⟨_, _, rfl, r, n⟩ := r
  cases n; cases r; exact call_type_of (typeIs_str _ _ _) (by decide) ⟨R, .refl c, .val _⟩
theorem op_isinstance_bytes {x : Str} : OpL w k (fun vs => call (.builtin "isinstance") vs) [.str x, .val (.type "bytes")] (.bool false) := fun A R s vs c r => by
  replace r := r.cons_inv
  obtain ⟨_, _, rfl, r, n⟩ := r
  replace n := n.cons_inv
  obtain ⟨_, _, rfl, r', n⟩ := n
  cases n; cases r; cases r'
  exact call_isinstance (isinstance_false_str (by decide) (by kernel_rfl) (by rw [isSubtype_type]; kernel_rfl)) ⟨R, .tok c _, .bool _⟩
theorem issub_nested {prog : Program} {P : Fin → Shared → Prop} {E : Value → Shared → Prop} {t : Addr} (ht : s.heap.IsTuple t #[.type "str", .type "bytes"]) (h : P (.done (.ret (.bool true))) s) :
    wpAny (model prog w) A (Builtin.«issubclass.nested» ⟨[.type "str", .ref t, rawInt 0], []⟩) P E s := by
  obtain ⟨o, ho, hc, n, hd⟩ := ht
  unfold Builtin.«issubclass.nested»
  dsimp only [rawInt]
  refine wpAny_bind (wpAny_typeOf (T := "tuple") ⟨o, ho, hc⟩ ?_)
  rw [if_neg (by decide)]
  unfold Builtin.Builtins.unionMembers
  refine wpAny_bind (wpAny_bind (wpAny_typeOf (T := "tuple") ⟨o, ho, hc⟩ ?_))
  rw [if_neg (by decide)]
  refine wpAny_pure ?_
  refine wpAny_bind (wpAny_isInstance (T := "tuple") ⟨o, ho, hc⟩ (b := true) (by rw [isSubtype_type]; kernel_rfl) ?_)
  simp only [if_true]
  rw [if_neg (by decide)]
  refine wpAny_bind (wpAny_bind (wpAny_load ho ?_))
  rw [hd]
  refine wpAny_pure (wpAny_bind ?_)
  simp only [Option.getD_some]
  rw [← Array.forIn_toList, List.forIn_cons]
  refine wpAny_bind (wpAny_bind (Calls.call_function_entry (by decide +kernel) (by decide +kernel) F.entry_issubclass_nested (by unfold argsOk; kernel_rfl) ?_))
  have h1 : typeOf (.type "str") = pure (.type "type") := by kernel_rfl
  have h2 : isSubtype (.type "str") (.type "str") = pure true := by rw [isSubtype_type]; kernel_rfl
  have h3 : isSubtype (.type "type") (.type "type") = pure true := by rw [isSubtype_type]; kernel_rfl
  repeat (any_goals (first | assumption | (rw [h2]) | (rw [h3]) | wp_step))
  refine ⟨_, rfl, ?_⟩
  repeat (any_goals (first | assumption | wp_step))
theorem op_issub : OpL w k (fun vs => call (.builtin "issubclass") vs) [.val (.type "str"), .tup [.val (.type "str"), .val (.type "bytes")]] (.bool true) := fun A R s vs c r => by
  replace r := r.cons_inv
  obtain ⟨_, _, rfl, r, n⟩ := r
  replace n := n.cons_inv
  obtain ⟨_, _, rfl, r', n⟩ := n
  cases n; cases r
  replace r' := r'.tup_inv
  obtain ⟨a, us, rfl, ht, rs⟩ := r'
  replace rs := rs.cons_inv
  obtain ⟨_, _, rfl, r1, rs⟩ := rs
  replace rs := rs.cons_inv
  obtain ⟨_, _, rfl, r2, rs⟩ := rs
  cases rs; cases r1; cases r2
  exact call_issubclass (S := fun _ Rr s => s.heap.IsTuple a #[.type "str", .type "bytes"] ∧ Rr (.ok (.ret (.bool true))) s) (fun prog w A Rr s hs => issubclass_outer (issub_nested hs.1 hs.2)) ⟨isTuple_mono c.ext ht, R, .refl c, .bool _⟩
end


theorem fn_fspath (w : World) : ∃ fd, FnAt w 94 9 fd ∧ ∀ vs : List Value, vs.length = 1 → bindArgs fd ⟨vs, []⟩ = pure (([Str.ofString "path"] : List Str).zip vs) := by
  refine ⟨_, ⟨⟨_, _, _, rfl⟩, rfl, rfl, rfl, rfl, rfl, by kernel_rfl, by kernel_rfl⟩, ?_⟩
  intro vs hv
  obtain ⟨a, rfl⟩ := len1 hv; rfl
end Mine
end

noncomputable section
open PySem PySem.W PyProof.Rows
namespace Mine
section
variable {w : World} {k : Nat} {A : Around} {sc : Scope} {F : FrS} {h₀ R R' R'' h h' : Heap} {σ σ' σ₁ σ₂ σ₃ : St} {s s' s'' : Shared} {fn : Prop} {wr : List Addr}

noncomputable def frzS : Slot → Slot
  | .own d => .fz d
  | .fz d => .fz d
/-- all own things seen as frozen -/
noncomputable def frz (σ : St) : St := σ.map fun p => (p.1, frzS p.2)
theorem frz_lookup (σ : St) (x : Str) : (frz σ).lookup x = (σ.lookup x).map frzS := by
  induction σ with
  | nil => rfl
  | cons p σ ih =>
    unfold frz at *
    rw [List.map_cons, List.lookup_cons, List.lookup_cons]
    cases x == p.1 with
    | true => rfl
    | false => exact ih

open Classical in
theorem Sat.freezeAll (S : Sat w A sc F h₀ σ R s) {m : Str → Option Value} (V : Vars w A sc F h₀ σ R s.heap m) :
    ∃ R', Le R R' ∧ (∀ b o, R'.get? b = some o → R.get? b = some o ∨ h₀.get? b = none) ∧ Sat w A sc F h₀ (frz σ) R' s ∧ (∀ x d a, σ.lookup x = some (.own d) → At sc F s.heap m x (.ref a) → ∀ o, s.heap.get? a = some o → R'.get? a = some o) := by
  let OA : Addr → Prop := fun b => ∃ x d, σ.lookup x = some (.own d) ∧ At sc F s.heap m x (.ref b)
  let R' := only s.heap fun b => (R.get? b).isSome || decide (OA b)
  have get : ∀ {b o}, R'.get? b = some o ↔ R.get? b = some o ∨ (OA b ∧ s.heap.get? b = some o) := fun {b o} => by
    constructor
    · intro q
      obtain ⟨q1, q2⟩ := only_some.mp q
      cases z : R.get? b with
      | some o' => have := S.ext b o' z; rw [q2] at this; cases this; exact .inl rfl
      | none => rw [z] at q1; exact .inr ⟨of_decide_eq_true (by simpa using q1), q2⟩
    · rintro (q | ⟨q1, q2⟩)
      · exact only_some.mpr ⟨by rw [q]; rfl, S.ext b o q⟩
      · exact only_some.mpr ⟨by rw [decide_eq_true q1, Bool.or_true], q2⟩
  have l : Le R R' := fun b o q => get.mpr (.inl q)
  have off : ∀ {b}, OA b → Off A F h₀ R b := fun {b} ⟨x, d, q, i⟩ => V.off x d b q i
  have nn : ∀ {b}, R.get? b = none → ¬ OA b → R'.get? b = none := fun {b} e n => none_of fun o q => (get.mp q).elim (fun q => nomatch e.symm.trans q) fun q => n q.1
  refine ⟨R', l, fun b o q => (get.mp q).imp id fun q => (off q.1).h, { S with ext := only_le _ _, roff := fun f hf => nn (S.roff f hf) fun q => (off q).p hf, lr := nn S.lr fun q => (off q).l rfl, cells := { S.cells with r := fun x c e => nn (S.cells.r x c e) fun q => (off q).c x c e rfl }, vars := ⟨m, V.ns, fun x sl q => ?_, fun x d a q i => ?_, fun x y d e a q => ?_⟩ }, fun x d a q i o e => get.mpr (.inr ⟨⟨x, d, q, i⟩, e⟩)⟩
  · rw [frz_lookup] at q
    cases z : σ.lookup x with
    | none => rw [z] at q; cases q
    | some sl' =>
      rw [z] at q; cases q
      obtain ⟨v, i, ok⟩ := V.at_ x _ z
      refine ⟨v, i, ?_⟩
      cases ok with
      | fz r => exact .fz (r.mono l)
      | own o => exact .fz (o.rep (fun ob e => get.mpr (.inr ⟨⟨x, _, z, i⟩, e⟩)) l)
  · rw [frz_lookup] at q
    cases z : σ.lookup x with
    | none => rw [z] at q; cases q
    | some sl' => rw [z] at q; cases sl' <;> cases q
  · rw [frz_lookup] at q
    cases z : σ.lookup x with
    | none => rw [z] at q; cases q
    | some sl' => rw [z] at q; cases sl' <;> cases q


open Classical in
theorem jd_borrow {α : Type} {t : Env → Sem α} {K : Heap → α → Prop} {K' : α → Prop} (h : Jd w k sc (frz σ) t K σ₁) (hk : ∀ R v, K R v → K' v) : Jd w k sc σ t (fun _ v => K' v) σ := fun A F h₀ R s rm S => by
  obtain ⟨m, V⟩ := S.vars
  obtain ⟨Rf, l, nw, Sf, got⟩ := S.freezeAll V
  have SL := Sf.lock (fun b => b == F.L || decide (∃ x, F.cl.lookup x = some b)) (fun a _ m x d _ q => by
    rw [frz_lookup] at q
    cases z : σ.lookup x with
    | none => rw [z] at q; cases q
    | some sl' => rw [z] at q; cases sl' <;> cases q)
  refine wpAny_mono (h A F _ Rf s rm SL) ?_ fun _ _ e => e
  rintro v s' ⟨R', st, S', q⟩
  obtain ⟨mf, Vf⟩ := S'.vars
  have nsL : s'.heap.Ns F.L m := by
    refine S'.old.ns ?_
    obtain ⟨o, es, ep, ho, r⟩ := V.ns
    exact ⟨o, es, ep, lock_self (by simp) ho, r⟩
  have cel : ∀ x c u, F.cl.lookup x = some c → s.heap.IsCell c u → s'.heap.IsCell c u := fun x c u e i => by
    refine S'.old.cell ?_
    obtain ⟨o, ho, hd⟩ := i
    exact ⟨o, lock_self (by simp only [Bool.or_eq_true]; exact .inr (decide_eq_true ⟨x, e⟩)) ho, hd⟩
  have fw : ∀ {y u}, At sc F s.heap m y u → At sc F s'.heap m y u := At.fwd cel
  have bw : ∀ {y u}, At sc F s'.heap m y u → At sc F s.heap m y u := At.bwd S.cells.is cel
  refine ⟨R, ⟨.refl R, fun _ _ e => .inl e, st.same⟩, { fr := S'.fr, base := S.base, old := (lock_pres S.old _).trans S'.old, ext := l.trans (st.le.trans S'.ext), roff := S.roff, lr := S.lr, cells := { S'.cells with r := S.cells.r }, has := S.has, vars := ⟨m, nsL, fun x sl q => ?_, fun x d a q i => V.off x d a q (bw i), fun x y d e a q q' i i' => V.apart x y d e a q q' (bw i) (bw i')⟩ }, hk R' v q⟩
  obtain ⟨u, i, ok⟩ := V.at_ x sl q
  refine ⟨u, fw i, ?_⟩
  cases ok with
  | fz r => exact .fz r
  | @own d a o => exact .own (o.same (fun ob e => S'.ext _ _ (st.le _ _ (got x d a q i ob e))) (.refl R))

inductive Flat : D → Prop
  | none : Flat .none
  | bool (b : Bool) : Flat (.bool b)
  | int (i : Int) : Flat (.int i)
  | str (s : Str) : Flat (.str s)
  | val (v : Value) : Flat (.val v)
theorem Flat.rep {d : D} (f : Flat d) {v : Value} (r : Rep w R d v) : Rep w R' d v := by
  cases f <;> cases r <;> constructor
theorem ev_borrow {e : PySem.Expr} {d : D} (f : Flat d) (h : Ev w k sc (frz σ) e d σ₁) : Ev w k sc σ e d σ := fun A F h₀ R s rm S => by
  have := jd_borrow (t := fun env => eval e env) (K := fun R v => Rep w R d v) (K' := fun v => ∀ R, Rep w R d v) h (fun R v r R' => f.rep r) A F h₀ R s rm S
  exact wpAny_mono this (fun v s' ⟨R', st, S', r⟩ => ⟨R', st, S', r R'⟩) fun _ _ e => e
theorem tr_borrow {e : PySem.Expr} {b : Bool} (h : Tr w k sc (frz σ) e b σ₁) : Tr w k sc σ e b σ := jd_borrow h fun _ _ e => e
end
end Mine
end

noncomputable section
open PySem PySem.W PyProof.Rows
namespace Mine

theorem list_extendW (l : Addr) (items : Array Value) (n : Nat) (b : Addr) (items2 : Array Value) (n2 : Nat) (dd2 : Option Addr) (sl2 : Array (Option Value)) (hc0 : ¬(!items.isEmpty && Builtin.List.listTooLong (items.size + items2.size)) = true) (hc1 : items.size ≤ sizeLine) (hs2 : items.size + items2.size ≤ sizeLine + 1) :
    Meets (Builtin.«list.extend» ⟨[.ref l, .ref b], []⟩) (fun _ R s => s.heap.get? l = some { cls := .type "list", dict := none, data := .seq items n, slots := #[] } ∧ s.heap.get? b = some { cls := .type "list", dict := dd2, data := .seq items2 n2, slots := sl2 } ∧ R (.ok (.ret Value.none)) { s with heap := s.heap.update l (Obj.mapSeq fun x => x ++ items2), toks := s.toks }) :=
  .of_wp fun prog w A R s h => by
    obtain ⟨hp, g, d, tk, os⟩ := s; obtain ⟨hl, hb, h⟩ := h; have f1 := AutoSeq1.idx_int; have f2 := AutoSeq1.sub_tuple_tuple; have f3 := AutoSeq1.sub_list_list; have f4 := AutoSeq1.sub_tuple_list; have f5 := AutoSeq1.sub_list_tuple;
    have hz' : (items ++ items2).size ≤ sizeLine + 1 := by rw [Array.size_append]; exact hs2
    wp_walk using (wpAny_updateSeq hl rfl (hz := hc1) (_hz' := hz')), wpAny_loadPart' hl, wpAny_loadPart' hb; exact ⟨_, rfl, h⟩
theorem list_iaddW (l : Addr) (items : Array Value) (n : Nat) (b : Addr) (items2 : Array Value) (n2 : Nat) (dd2 : Option Addr) (sl2 : Array (Option Value)) (hs0 : ¬(!items.isEmpty && Builtin.List.listTooLong (items.size + items2.size)) = true) (hs1 : items.size ≤ sizeLine) (hs2 : items.size + items2.size ≤ sizeLine + 1) :
    Meets (Builtin.«list.__iadd__» ⟨[.ref l, .ref b], []⟩) (fun _ R s => s.heap.get? l = some { cls := .type "list", dict := none, data := .seq items n, slots := #[] } ∧ s.heap.get? b = some { cls := .type "list", dict := dd2, data := .seq items2 n2, slots := sl2 } ∧ R (.ok (.ret (Value.ref l))) { s with heap := s.heap.update l (Obj.mapSeq fun x => x ++ items2), toks := s.toks }) :=
  .of_wp fun prog w A R s h => by
    obtain ⟨hp, g, d, tk, os⟩ := s; obtain ⟨hl, hb, h⟩ := h; have f1 := AutoSeq1.idx_int; have f2 := AutoSeq1.sub_tuple_tuple; have f3 := AutoSeq1.sub_list_list; have f4 := AutoSeq1.sub_tuple_list; have f5 := AutoSeq1.sub_list_tuple;
    have hz' : (items ++ items2).size ≤ sizeLine + 1 := by rw [Array.size_append]; exact hs2
    wp_walk using (wpAny_updateSeq hl rfl (hz := hs1) (_hz' := hz')), wpAny_loadPart' hl, wpAny_loadPart' hb; exact ⟨_, rfl, h⟩

section
variable {w : World} {A : Around} {s : Shared} {E : Value → Shared → Prop} {l b : Addr} {vs ws : List Value} {n : Nat} {Q : Value → Shared → Prop}
theorem tooLong_no (h : vs.length + ws.length ≤ sizeLine) : ¬(!vs.toArray.isEmpty && Builtin.List.listTooLong (vs.toArray.size + ws.toArray.size)) = true := by
  intro q
  simp only [Bool.and_eq_true] at q
  have := q.2
  unfold Builtin.List.listTooLong at this
  simp only [List.size_toArray, sizeLine] at *
  have := of_decide_eq_true this
  omega
theorem call_extend (hl : s.heap.get? l = some (seqObj "list" vs.toArray n)) (hb : s.heap.IsList b ws.toArray) (hz : vs.length + ws.length ≤ sizeLine)
    (h : ∀ h', Heap.SameBut l s.heap h' → (∃ n', h'.get? l = some (seqObj "list" (vs ++ ws).toArray n')) → Q .none { s with heap := h' }) : wpAny (MM w) A (call (.builtin "list.extend") [.ref l, .ref b]) Q E s := by
  obtain ⟨⟨cls2, dd2, data2, sl2⟩, ho2, hc2, n2, hd2⟩ := id hb
  simp only at hc2 hd2
  subst hc2 hd2
  exact call_meets PySem.F.slot_list_extend ⟨_, hl, rfl⟩ PySem.F.entry_list_extend (PySem.F.args_list_extend_2 _ _) (list_extendW l vs.toArray n b ws.toArray n2 dd2 sl2 (tooLong_no hz) (by simp only [List.size_toArray]; omega) (by simp only [List.size_toArray]; omega)) ⟨hl, ho2, h _ (Heap.SameBut.update ..) (by
    rw [get?_update_seq hl]
    exact ⟨_, by rw [List.append_toArray]⟩)⟩
theorem iadd_own (hl : s.heap.get? l = some (seqObj "list" vs.toArray n)) (hb : s.heap.IsList b ws.toArray) (hz : vs.length + ws.length ≤ sizeLine)
    (h : ∀ h', Heap.SameBut l s.heap h' → (∃ n', h'.get? l = some (seqObj "list" (vs ++ ws).toArray n')) → Q (.ref l) { s with heap := h' }) : wpAny (MM w) A (inplaceOp .Add (.ref l) (.ref b)) Q E s := by
  obtain ⟨⟨cls2, dd2, data2, sl2⟩, ho2, hc2, n2, hd2⟩ := id hb
  simp only at hc2 hd2
  subst hc2 hd2
  unfold inplaceOp
  refine wpAny_holding ?_
  have hseq : seqSlot? (.type "list") (dunderI "add") = pure (some (.builtin "list.__iadd__")) := PySem.seqSlot_of PySem.F.slot_list_iadd.lookup (by decide +kernel)
  have hfi : fillsInplaceSlot (.type "list") "add" (Operator.Add == .Add) = pure false := by
    unfold fillsInplaceSlot
    show (typeLookup (.type "list") (dunderI "add") >>= fun fi => pure (fi.isSome && !isSeqSlot fi)) = pure false
    rw [PySem.F.slot_list_iadd.lookup]
    have : isSeqSlot (some (.builtin "list.__iadd__")) = true := by decide +kernel
    show pure (_ && !isSeqSlot (some (.builtin "list.__iadd__"))) = (pure false : Sem Bool)
    rw [this]; rfl
  refine wpAny_bind (wpAny_typeOf ⟨_, hl, rfl⟩ (wpAny_bind (wpAny_of_eq hfi ?_)))
  rw [if_neg Bool.false_ne_true]
  refine wpAny_bind (PySem.wpAny_binaryOp1_none (nm := "add") ⟨_, hl, rfl⟩ ⟨_, ho2, rfl⟩ noFill_list_add ?_)
  refine wpAny_bind (wpAny_of_eq hseq ?_)
  refine wpAny_bind (wpAny_rule ?_)
  exact call_meets PySem.F.slot_list_iadd ⟨_, hl, rfl⟩ PySem.F.entry_list_iadd (PySem.F.args_list_iadd_2 _ _) (list_iaddW l vs.toArray n b ws.toArray n2 dd2 sl2 (tooLong_no hz) (by simp only [List.size_toArray]; omega) (by simp only [List.size_toArray]; omega)) ⟨hl, ho2, h _ (Heap.SameBut.update ..) (by
    rw [get?_update_seq hl]
    exact ⟨_, by rw [List.append_toArray]⟩)⟩
theorem call_pop {j : Int} {i : Nat} {u : Tok} {y : Value} (hj : j = i) (hl : s.heap.get? l = some (seqObj "list" vs.toArray n)) (hi : i < vs.length) (hy : vs[i]? = some y) (hz : vs.length ≤ sizeLine)
    (h : ∀ h', Heap.SameBut l s.heap h' → (∃ n', h'.get? l = some (seqObj "list" (vs.eraseIdx i).toArray n')) → Q y { s with heap := h' }) : wpAny (MM w) A (call (.builtin "list.pop") [.ref l, .int j u]) Q E s := by
  have h1 : Builtin.List.listFitsIndex j = true := by
    rw [hj]
    unfold Builtin.List.listFitsIndex
    simp only [sizeLine] at hz
    simp; omega
  have h2 : seqIndex? j vs.toArray.size = some i := by
    rw [hj]
    unfold seqIndex?
    have h : ¬ (i : Int) < 0 := by omega
    rw [List.size_toArray]
    simp [h]; omega
  have h3 : vs.toArray[i]? = some y := by simpa using hy
  have h4 : vs.toArray.size ≤ sizeLine := by rw [List.size_toArray]; exact hz
  have hm := PySem.MeetsSeq.list_pop_at l vs.toArray n j u i y h1 h2 h3 h4
  refine call_meets PySem.F.slot_list_pop ⟨_, hl, rfl⟩ PySem.F.entry_list_pop (PySem.F.args_list_pop_2 _ _) hm ⟨hl, h _ (Heap.SameBut.update ..) (by
    have e : vs.toArray.eraseIdxIfInBounds i = (vs.eraseIdx i).toArray := by simp
    have g := get?_update_seq (g := fun xs => xs.eraseIdxIfInBounds i) hl
    rw [e] at g
    exact ⟨_, g⟩)⟩
end
end Mine
end

noncomputable section
open PySem PySem.W PyProof.Rows
namespace Mine
section
variable {w : World} {k : Nat} {A : Around} {sc : Scope} {F : FrS} {h₀ R R' R'' h h' : Heap} {σ σ' σ₁ σ₂ σ₃ : St} {s s' s'' : Shared} {fn : Prop} {wr : List Addr}

theorem lookup_filter_self (y : Str) : ∀ l : St, (l.filter fun p => !(p.1 == y)).lookup y = none
  | [] => rfl
  | (z, sl) :: l => by
    rw [List.filter_cons]
    cases hb : z == y with
    | true => simpa using lookup_filter_self y l
    | false =>
      simp only [Bool.not_false, if_true, List.lookup_cons]
      have : (y == z) = false := by rw [beq_eq_false_iff_ne] at *; exact fun z => hb z.symm
      rw [this]; exact lookup_filter_self y l
/-- the locals' map stays while an expression runs -/
theorem jd_keepL {α : Type} {t : Env → Sem α} {K : Heap → α → Prop} (h : Jd w k sc σ t K σ₁) (rm : Room k A) (S : Sat w A sc F h₀ σ R s) {m : Str → Option Value} (hm : s.heap.Ns F.L m) :
    wpAny (MM w) A (t (mkEnv sc F)) (fun v s' => ∃ R', Step h₀ R R' s s' ∧ Sat w A sc F h₀ σ₁ R' s' ∧ K R' v ∧ s'.heap.Ns F.L m) (fun _ _ => False) s := by
  have SL := S.lock (fun b => b == F.L) (fun a ha m x d _ q i => by
    rw [beq_iff_eq] at ha; subst ha
    obtain ⟨m', V⟩ := S.vars
    have := V.inj ‹_› rfl; subst this
    exact (V.off x d _ q i).l rfl)
  refine wpAny_mono (h A F _ R s rm SL) ?_ fun _ _ e => e
  rintro v s' ⟨R', st, S', q⟩
  refine ⟨R', st.unlock (P := frs A) (lock_pres S.old _), S'.unlock S.base (lock_pres S.old _), q, ?_⟩
  refine S'.old.ns ?_
  obtain ⟨o, es, ep, ho, r⟩ := hm
  exact ⟨o, es, ep, lock_self (by simp) ho, r⟩

theorem Sat.ownAt (S : Sat w A sc F h₀ σ R s) {m : Str → Option Value} (hm : s.heap.Ns F.L m) {x : Str} {d : D} (q : σ.lookup x = some (.own d)) (hx : sc.names.lookup x = some .local) :
    ∃ a, m x = some (.ref a) ∧ Own w s.heap R d a := by
  obtain ⟨m', V⟩ := S.vars
  have := V.inj hm rfl; subst this
  obtain ⟨v, i, ok⟩ := V.at_ x _ q
  cases ok with
  | @own _ a o =>
    refine ⟨a, ?_, o⟩
    rcases i with ⟨_, e⟩ | ⟨k', _⟩ | ⟨k', _⟩
    · exact e
    · exact nomatch hx.symm.trans k'
    · exact nomatch hx.symm.trans k'
theorem Sat.ownMid (S : Sat w A sc F h₀ σ R s) {m : Str → Option Value} (hm : s.heap.Ns F.L m) {x : Str} {d : D} {a : Addr} (q : σ.lookup x = some (.own d)) (hx : sc.names.lookup x = some .local) (hv : m x = some (.ref a)) :
    Own w s.heap R d a := by
  obtain ⟨a', e, o⟩ := S.ownAt hm q hx
  rw [hv] at e; cases e; exact o

/-- what an own thing's name and its method give -/
theorem ex_append {x : Str} {p ap pos epos : Pos} {e : PySem.Expr} {ds : List D} {d : D} (q : σ.lookup x = some (.own (.list ds))) (hv : Ev w k sc σ e d σ₁) (q' : σ₁.lookup x = some (.own (.list ds))) (hz : ds.length ≤ sizeLine)
    (hx : sc.names.lookup x = some .local) (hk : sc.kind = .function := by rfl)
    (hp : Plain [e] := by intro _ _; rfl)
    (he : ∀ sc F, ∃ pl, eval (.Call (.Attribute (.Name x p) "append" ap) [e] [] pos) (mkEnv sc F) = (do
      let ov ← eval (.Name x p) (mkEnv sc F)
      standAt ap.atName
      let (f, first) ← holding [ov] (getMethod ov "append" pl)
      callWith pos f first (backTo pos (starEach [e] (mkEnv sc F))) []) := by intro _ _; exact ⟨_, rfl⟩)
    (hes : ∀ env, starEach [e] env = [(false, eval e env)] := by intro _; rfl)
    (hd : (x == ("__debug__" : Str)) = false := by decide) (hi : ∀ F, interactive (mkEnv sc F) = false := by intro _; rfl)
    (hs : ∀ F, swapsWith (.Call (.Attribute (.Name x p) "append" ap) [e] [] pos) none epos.line (mkEnv sc F) = pure false := by intro _; rfl) :
    Ex w k sc σ (.Expr (.Call (.Attribute (.Name x p) "append" ap) [e] [] pos) epos) .next (put σ₁ x (.own (.list (ds ++ [d])))) := fun A F h₀ R s hf lh rm S => by
  obtain ⟨m, V⟩ := S.vars
  obtain ⟨a, hm, o⟩ := S.ownAt V.ns q hx
  obtain ⟨pl, he⟩ := he sc F
  refine wpAny_Expr (MethodCall_ (pl := pl) (wpAny_Name (wpAny_loadName_local hk hx V.ns hm ?_) hd) he) (hi _) (hs _)
  cases o with
  | @list _ vs n _ ho r =>
    refine Calls.getMethod_list_append ho rfl rfl ?_
    refine (callOk_builtin (w := w) "list.append") (hp _ _) ?_
    rw [hes]
    refine Calls.spliced_cons (wpAny_mono (jd_keepL (t := fun env => eval e env) hv rm S V.ns) ?_ fun _ _ e => e)
    rintro v s₁ ⟨R₁, st, S₁, r₁, hn⟩
    refine Calls.spliced_nil ⟨(S₁.cx rm).base.k, ?_⟩
    have o₁ := S₁.ownMid hn q' hx hm
    cases o₁ with
    | @list _ vs₁ n₁ _ ho₁ rs =>
      refine call_append ho₁ (by rw [rs.length]; exact hz) fun h' sb ⟨n', g⟩ => ?_
      exact ⟨R₁, st.trans .heap, S₁.updOwn (t := s₁.toks) q' hn (.loc hx hm) sb (.list g (rs.append (.cons r₁ .nil))), .next⟩

theorem ex_iadd_own {x : Str} {p pos : Pos} {value : PySem.Expr} {ds es : List D} (q : σ.lookup x = some (.own (.list ds))) (hv : Ev w k sc σ value (.list es) σ₁) (q' : σ₁.lookup x = some (.own (.list ds))) (hz : ds.length + es.length ≤ sizeLine)
    (hx : sc.names.lookup x = some .local) (hk : sc.kind = .function := by rfl) :
    Ex w k sc σ (.AugAssign (.Name x p) .Add value pos) .next (put σ₁ x (.own (.list (ds ++ es)))) := fun A F h₀ R s hf lh rm S => by
  obtain ⟨m, V⟩ := S.vars
  obtain ⟨a, hm, _⟩ := S.ownAt V.ns q hx
  refine wpAny_AugAssign_Name (wpAny_loadName_local hk hx V.ns hm (wpAny_mono (jd_keepL (t := fun env => eval value env) hv rm S V.ns) ?_ fun _ _ e => e.elim))
  rintro v s₁ ⟨R₁, st, S₁, r₁, hn⟩
  have o₁ := S₁.ownMid hn q' hx hm
  cases o₁ with
  | @list _ vs n _ ho rs =>
    replace r₁ := r₁.list_inv
    obtain ⟨b, ws, rfl, hb, rb⟩ := r₁
    refine iadd_own ho (isList_mono S₁.ext hb) (by rw [rs.length, rb.length]; exact hz) fun h' sb ⟨n', g⟩ => ?_
    have S₂ := S₁.updOwn (t := s₁.toks) q' hn (.loc hx hm) sb (.list g (rs.append rb))
    obtain ⟨m₂, V₂⟩ := S₂.vars
    have hm₂ : m₂ x = some (.ref a) := by
      have O : a ≠ F.L := by
        obtain ⟨m₁, V₁⟩ := S₁.vars
        have := V₁.inj hn rfl; subst this
        exact (V₁.off x _ a q' (.loc hx hm)).l
      have := ns_inj V₂.ns (hn.sameBut sb O.symm); subst this; exact hm
    have O₂ := V₂.off x _ a (by rw [lookup_put, if_pos rfl]) (.loc hx hm₂)
    have S₃ : Sat w A sc F h₀ (σ₁.filter fun p => !(p.1 == x)) R₁ { s₁ with heap := h' } := S₂.weaken fun y sl e => by
      by_cases ey : y = x
      · subst ey; rw [lookup_filter_self] at e; cases e
      · rw [lookup_filter x y (by simpa using ey)] at e; rw [lookup_put, if_neg ey]; exact e
    refine wpAny_storeName_local hx V₂.ns (fun h₂ hn₂ hs₂ => ?_) (by show (sc.kind == .class || (sc.kind == .module && F.L != mainGlobals)) = false; rw [hk]; rfl)
    refine ⟨R₁, (st.trans .heap).trans .heap, (S₃.storeL (t := s₁.toks + 1) lh.L hx V₂.ns hn₂ hs₂ (.own (.list g (rs.append rb))) fun d a' e1 e2 => ?_).weaken (fun y sl e => ?_), .next⟩
    · cases e1; cases e2
      refine ⟨O₂, fun y e ly i => ?_⟩
      by_cases ey : y = x
      · subst ey; rw [lookup_filter_self] at ly; cases ly
      · exact ey (V₂.apart y x e _ a (by rw [lookup_put, if_neg ey]; rwa [lookup_filter x y (by simpa using ey)] at ly) (by rw [lookup_put, if_pos rfl]) i (.loc hx hm₂))
    · rw [lookup_put] at e ⊢
      by_cases ey : y = x
      · rw [if_pos ey] at e ⊢; exact e
      · rw [if_neg ey] at e ⊢; rwa [lookup_filter x y (by simpa using ey)]
end
end Mine
end

noncomputable section
open PySem PySem.W PyProof.Rows
namespace Mine
section
variable {w : World} {k : Nat} {A : Around} {sc : Scope} {F : FrS} {h₀ R R' R'' h h' : Heap} {σ σ' σ₁ σ₂ σ₃ : St} {s s' s'' : Shared} {fn : Prop} {wr : List Addr}

theorem RepL.erase {ds : List D} : ∀ {vs : List Value}, RepL w R ds vs → ∀ i, RepL w R (ds.eraseIdx i) (vs.eraseIdx i) := by
  induction ds with
  | nil => intro vs h i; cases h.nil_inv; exact .nil
  | cons d ds ih =>
    intro vs h i; obtain ⟨v, us, rfl, a, r⟩ := h.cons_inv
    cases i with
    | zero => exact r
    | succ i => exact .cons a (ih r i)
theorem RepL.set {ds : List D} : ∀ {vs : List Value}, RepL w R ds vs → ∀ i {d v}, Rep w R d v → RepL w R (ds.set i d) (vs.set i v) := by
  induction ds with
  | nil => intro vs h i d v q; cases h.nil_inv; exact .nil
  | cons d ds ih =>
    intro vs h i d' v' q; obtain ⟨v, us, rfl, a, r⟩ := h.cons_inv
    cases i with
    | zero => exact .cons q r
    | succ i => exact .cons a (ih r i q)

theorem setItem_own {l : Addr} {vs : List Value} {n : Nat} {i : Int} {j : Nat} {t : Tok} {v : Value} {Q : Unit → Shared → Prop} {E : Value → Shared → Prop} (hij : i = j) (ho : s.heap.get? l = some (seqObj "list" vs.toArray n)) (hj : j < vs.length) (hz : vs.length ≤ sizeLine)
    (hQ : ∀ h', Heap.SameBut l s.heap h' → (∃ n', h'.get? l = some (seqObj "list" (vs.set j v).toArray n')) → Q () { s with heap := h' }) :
    wpAny (MM w) A (setItem (.ref l) (.int i t) v) Q E s := by
  have h0 : 0 ≤ i := by omega
  have hfit : i < 2 ^ 63 := by simp only [sizeLine] at hz; omega
  have hl : s.heap.IsList l vs.toArray := ⟨_, ho, rfl, n, rfl⟩
  have hT := hl.typeIs
  unfold setItem
  try with_reducible refine wpAny_holding ?_
  first | refine wpAny_bind (wpAny_pure ?_) | skip
  refine wpAny_bind (wpAny_sequenceKey hT (by decide) ?_)
  refine wpAny_bind (wpAny_callSpecial?_slot (name := Str.ofString "__setitem__") hT PySem.slot_list_setitem
    (wpAny_call_entry PySem.slot_list_setitem hT PySem.entry_list_setitem ?_ (PySem.args_list_setitem _ _ _)))
  show wpAny _ _ (Builtin.List.listSubscript? (.int i t) >>= _) _ _ s
  refine wpAny_bind (wpAny_listSubscript_int (fitsIndex_of h0 hfit) ?_)
  clear hfit
  subst hij
  have hx' : vs.toArray[j]? = some vs[j] := by simp [hj]
  show wpAny _ _ ((seqItemAt l j >>= fun r => pure (r.map (j, ·))) >>= _) _ _ s
  refine wpAny_bind (wpAny_bind (wpAny_seqItemAt ho rfl (wpAny_pure ?_)))
  rw [hx']
  show wpAny _ _ (setSeqItemAt l j v >>= _) _ _ s
  refine wpAny_bind (wpAny_setSeqItemAt ho rfl ?_)
  have g := get?_update_seq ho (fun xs => xs.setIfInBounds j v)
  rw [show vs.toArray.setIfInBounds j v = (vs.set j v).toArray from by simp] at g
  first
    | exact wpAny_bind (wpAny_pure (wpAny_pure ⟨.none, rfl, wpAny_pure (hQ _ (Heap.SameBut.update ..) ⟨_, g⟩)⟩))
    | exact wpAny_pure ⟨.none, rfl, wpAny_pure (hQ _ (Heap.SameBut.update ..) ⟨_, g⟩)⟩

/-- name.pop(e) of an own list -/
theorem ev_pop {x : Str} {p ap pos : Pos} {e : PySem.Expr} {ds : List D} {d : D} {j : Int} {i : Nat} (q : σ.lookup x = some (.own (.list ds))) (hv : Ev w k sc σ e (.int j) σ₁) (hj : j = i) (q' : σ₁.lookup x = some (.own (.list ds))) (hd : ds[i]? = some d) (hz : ds.length ≤ sizeLine)
    (hx : sc.names.lookup x = some .local) (hk : sc.kind = .function := by rfl)
    (hp : Plain [e] := by intro _ _; rfl)
    (he : ∀ sc F, ∃ pl, eval (.Call (.Attribute (.Name x p) "pop" ap) [e] [] pos) (mkEnv sc F) = (do
      let ov ← eval (.Name x p) (mkEnv sc F)
      standAt ap.atName
      let (f, first) ← holding [ov] (getMethod ov "pop" pl)
      callWith pos f first (backTo pos (starEach [e] (mkEnv sc F))) []) := by intro _ _; exact ⟨_, rfl⟩)
    (hes : ∀ env, starEach [e] env = [(false, eval e env)] := by intro _; rfl)
    (hdb : (x == ("__debug__" : Str)) = false := by decide) :
    Ev w k sc σ (.Call (.Attribute (.Name x p) "pop" ap) [e] [] pos) d (put σ₁ x (.own (.list (ds.eraseIdx i)))) := fun A F h₀ R s rm S => by
  obtain ⟨m, V⟩ := S.vars
  obtain ⟨a, hm, o⟩ := S.ownAt V.ns q hx
  obtain ⟨pl, he⟩ := he sc F
  refine MethodCall_ (pl := pl) (wpAny_Name (wpAny_loadName_local hk hx V.ns hm ?_) hdb) he
  cases o with
  | @list _ vs n _ ho r =>
    refine getMethod_list_of PySem.F.slot_list_pop PySem.F.type_list_pop (items := vs.toArray) ⟨_, ho, rfl, n, rfl⟩ ⟨_, ho, rfl⟩ ?_
    refine (callOk_builtin (w := w) "list.pop") (hp _ _) ?_
    rw [hes]
    refine Calls.spliced_cons (wpAny_mono (jd_keepL (t := fun env => eval e env) hv rm S V.ns) ?_ fun _ _ e => e)
    rintro v s₁ ⟨R₁, st, S₁, r₁, hn⟩
    refine Calls.spliced_nil ⟨(S₁.cx rm).base.k, ?_⟩
    have o₁ := S₁.ownMid hn q' hx hm
    cases o₁ with
    | @list _ vs₁ n₁ _ ho₁ rs =>
      replace r₁ := r₁.int_inv
      obtain ⟨t, rfl⟩ := r₁
      obtain ⟨y, hy, ry⟩ := rs.get hd
      refine call_pop hj ho₁ (List.getElem?_eq_some_iff.mp hy).1 hy (by rw [rs.length]; exact hz) fun h' sb ⟨n', g⟩ => ?_
      exact ⟨R₁, st.trans .heap, S₁.updOwn (t := s₁.toks) q' hn (.loc hx hm) sb (.list g (rs.erase i)), ry⟩

/-! items -/
noncomputable def OpItem (w : World) (k : Nat) (da db d : D) : Prop :=
  ∀ A R s va vb, Cx w k A R s → Rep w R da va → Rep w R db vb → (∃ T id, s.TypeIs va T ∧ typeLookup (.type T) "__getitem__" = pure (some (.builtin id))) ∧ Gives w A R s (getItem va vb) d
theorem ev_item {value slice : PySem.Expr} {pos : Pos} {da db d : D} (ha : Ev w k sc σ value da σ₁) (hb : Ev w k sc σ₁ slice db σ₂) (ho : OpItem w k da db d)
    (hs : ∀ o i, subscripted slice false o i = operate [o, i] (getItem o i) := by intro _ _; rfl) : Ev w k sc σ (.Subscript value slice pos) d σ₂ := fun A F h₀ R s rm S =>
  Subscript_ (wp_then (ha A F h₀ R s rm S) fun va R₁ s₁ st₁ S₁ q₁ => wp_then (hb A F h₀ R₁ s₁ rm S₁) fun vb R₂ s₂ st₂ S₂ q₂ => by
    obtain ⟨⟨T, id, hT, hl⟩, g⟩ := ho A R₂ s₂ va vb (S₂.cx rm) (q₁.mono st₂.le) q₂
    exact tail_any hT hl (wp_from (st₁.trans st₂) (S₂.gives g)) (hs _ _))
theorem item_list {ds : List D} {i : Int} {d : D} (h0 : 0 ≤ i) (hd : ds[i.toNat]? = some d) (hz : ds.length ≤ sizeLine) : OpItem w k (.list ds) (.int i) d := fun A R s va vb c ra rb => by
  replace ra := ra.list_inv
  obtain ⟨a, vs, rfl, hl, rs⟩ := ra
  replace rb := rb.int_inv
  obtain ⟨t, rfl⟩ := rb
  have hl' := isList_mono c.ext hl
  obtain ⟨v, hv, r⟩ := rs.get hd
  have hi := (List.getElem?_eq_some_iff.mp hd).1
  exact ⟨⟨_, _, hl'.typeIs, slot_list_getitem.lookup⟩, wpAny_getItem_list (x := v) hl' h0 (by simp only [sizeLine] at hz; omega) (by simpa using hv) ⟨R, .refl c, r⟩⟩
theorem item_list_last {ds : List D} {d : D} (hd : ds.getLast? = some d) (hz : ds.length ≤ sizeLine) : OpItem w k (.list ds) (.int (-1)) d := fun A R s va vb c ra rb => by
  replace ra := ra.list_inv
  obtain ⟨a, vs, rfl, hl, rs⟩ := ra
  replace rb := rb.int_inv
  obtain ⟨t, rfl⟩ := rb
  have hl' := isList_mono c.ext hl
  rw [List.getLast?_eq_getElem?] at hd
  obtain ⟨v, hv, r⟩ := rs.get hd
  have hi := (List.getElem?_eq_some_iff.mp hd).1
  have e := rs.length
  refine ⟨⟨_, _, hl'.typeIs, slot_list_getitem.lookup⟩, wpAny_getItem_list_neg (x := v) hl' (by decide) ?_ (by decide) ?_ ⟨R, .refl c, r⟩⟩
  · rw [List.size_toArray]; omega
  · rw [List.size_toArray, show ((-1 : Int) + (vs.length : Int)).toNat = ds.length - 1 from by omega]; simpa using hv
theorem item_tup {ds : List D} {i : Int} {d : D} (h0 : 0 ≤ i) (hd : ds[i.toNat]? = some d) (hz : ds.length ≤ sizeLine) : OpItem w k (.tup ds) (.int i) d := fun A R s va vb c ra rb => by
  replace ra := ra.tup_inv
  obtain ⟨a, vs, rfl, hl, rs⟩ := ra
  replace rb := rb.int_inv
  obtain ⟨t, rfl⟩ := rb
  have hl' := isTuple_mono c.ext hl
  obtain ⟨v, hv, r⟩ := rs.get hd
  have hi := (List.getElem?_eq_some_iff.mp hd).1
  have e := rs.length
  have hT : s.TypeIs (.ref a) "tuple" := by obtain ⟨o, ho, hc, _⟩ := hl'; exact ⟨o, ho, hc⟩
  refine ⟨⟨_, _, hT, slot_tuple_getitem.lookup⟩, getItem_tuple (j := i.toNat) (x := v) hl' (by omega) (by simp only [sizeLine] at hz; omega) ?_ (by simpa using hv) ⟨R, .refl c, r⟩⟩
  unfold seqIndex?
  have : ¬ i < 0 := by omega
  simp [this]; omega

/-! own items -/
theorem ev_own_item {x : Str} {p pos : Pos} {slice : PySem.Expr} {ds : List D} {i : Int} {j : Nat} {d : D} (q : σ.lookup x = some (.own (.list ds))) (hi : Ev w k sc σ slice (.int i) σ₁) (q' : σ₁.lookup x = some (.own (.list ds)))
    (hj : (0 ≤ i ∧ j = i.toNat) ∨ (i = -1 ∧ j + 1 = ds.length)) (hd : ds[j]? = some d) (hz : ds.length ≤ sizeLine) (hx : sc.names.lookup x = some .local) (hk : sc.kind = .function := by rfl)
    (hs : ∀ o i, subscripted slice false o i = operate [o, i] (getItem o i) := by intro _ _; rfl) (hdb : (x == ("__debug__" : Str)) = false := by decide) : Ev w k sc σ (.Subscript (.Name x p) slice pos) d σ₁ := fun A F h₀ R s rm S => by
  obtain ⟨m, V⟩ := S.vars
  obtain ⟨a, hm, _⟩ := S.ownAt V.ns q hx
  refine Subscript_ (wpAny_Name (wpAny_loadName_local hk hx V.ns hm (wpAny_mono (jd_keepL (t := fun env => eval slice env) hi rm S V.ns) ?_ fun _ _ e => e.elim)) hdb)
  rintro v s₁ ⟨R₁, st, S₁, r₁, hn⟩
  have o₁ := S₁.ownMid hn q' hx hm
  cases o₁ with
  | @list _ vs n _ ho rs =>
    replace r₁ := r₁.int_inv
    obtain ⟨t, rfl⟩ := r₁
    have hl : s₁.heap.IsList a vs.toArray := ⟨_, ho, rfl, n, rfl⟩
    obtain ⟨y, hv, r⟩ := rs.get hd
    have hlt := (List.getElem?_eq_some_iff.mp hd).1
    have e := rs.length
    refine tail_any hl.typeIs slot_list_getitem.lookup ?_ (hs _ _)
    rcases hj with ⟨h0, rfl⟩ | ⟨rfl, hj⟩
    · exact wpAny_getItem_list (x := y) hl h0 (by simp only [sizeLine] at hz; omega) (by simpa using hv) ⟨R₁, st, S₁, r⟩
    · refine wpAny_getItem_list_neg (x := y) hl (by decide) ?_ (by decide) ?_ ⟨R₁, st, S₁, r⟩
      · rw [List.size_toArray]; omega
      · rw [List.size_toArray, show ((-1 : Int) + (vs.length : Int)).toNat = j from by omega]; simpa using hv

/-- x[i] op= e of an own list -/
theorem ex_aug_item {x : Str} {p tpos pos : Pos} {slice value : PySem.Expr} {op : Operator} {ds : List D} {i : Int} {j : Nat} {d dv d' : D} (q : σ.lookup x = some (.own (.list ds))) (hi : Ev w k sc σ slice (.int i) σ₁) (hj : i = j) (q' : σ₁.lookup x = some (.own (.list ds)))
    (hd : ds[j]? = some d) (hv : Ev w k sc σ₁ value dv σ₂) (q'' : σ₂.lookup x = some (.own (.list ds))) (ho : Op2 w k (inplaceOp op) d dv d') (hz : ds.length ≤ sizeLine) (hx : sc.names.lookup x = some .local) (hk : sc.kind = .function := by rfl)
    (ha : ∀ ov iv new, augStore slice ov iv new = (do holding [new, ov, iv] (setItem ov iv new); release [new, ov, iv] []; pure .next) := by intro _ _ _; rfl) (hdb : (x == ("__debug__" : Str)) = false := by decide) :
    Ex w k sc σ (.AugAssign (.Subscript (.Name x p) slice tpos) op value pos) .next (put σ₂ x (.own (.list (ds.set j d')))) := fun A F h₀ R s hf lh rm S => by
  obtain ⟨m, V⟩ := S.vars
  obtain ⟨a, hm, _⟩ := S.ownAt V.ns q hx
  refine wpAny_AugAssign_SubscriptAny (wpAny_Name (wpAny_loadName_local hk hx V.ns hm (wpAny_mono (jd_keepL (t := fun env => eval slice env) hi rm S V.ns) ?_ fun _ _ e => e.elim)) hdb) ha
  rintro v s₁ ⟨R₁, st, S₁, r₁, hn⟩
  have o₁ := S₁.ownMid hn q' hx hm
  cases o₁ with
  | @list _ vs n _ hob rs =>
    replace r₁ := r₁.int_inv
    obtain ⟨t, rfl⟩ := r₁
    have hl : s₁.heap.IsList a vs.toArray := ⟨_, hob, rfl, n, rfl⟩
    obtain ⟨y, hy, ry⟩ := rs.get hd
    have hlt := (List.getElem?_eq_some_iff.mp hd).1
    have e := rs.length
    refine wpAny_getItem_list (x := y) hl (by omega) (by simp only [sizeLine] at hz; omega) (by rw [hj]; simpa using hy) ?_
    refine wpAny_mono (jd_keepL (t := fun env => eval value env) hv rm S₁ hn) ?_ fun _ _ e => e.elim
    rintro u s₂ ⟨R₂, st₂, S₂, r₂, hn₂⟩
    refine wpAny_mono (ho A R₂ s₂ y u (S₂.cx rm) (ry.mono st₂.le) r₂) ?_ fun _ _ e => e.elim
    rintro z s₃ ⟨R₃, mv, rz⟩
    have S₃ := S₂.mv mv
    have hn₃ := mv.pres.ns hn₂
    have o₃ := S₃.ownMid hn₃ q'' hx hm
    cases o₃ with
    | @list _ vs₃ n₃ _ ho₃ rs₃ =>
      have e₃ := rs₃.length
      refine setItem_own hj ho₃ (by omega) (by rw [e₃]; exact hz) fun h' sb ⟨n', g⟩ => ?_
      exact ⟨R₃, ((st.trans st₂).trans (S₂.step mv)).trans .heap, S₃.updOwn (t := s₃.toks) q'' hn₃ (.loc hx hm) sb (.list g (rs₃.set j rz)), .next⟩
end
end Mine
end

noncomputable section
open PySem PySem.W PyProof.Rows
namespace Mine
section
variable {w : World} {k : Nat} {A : Around} {sc : Scope} {F : FrS} {h₀ R R' R'' h h' : Heap} {σ σ' σ₁ σ₂ σ₃ : St} {s s' s'' : Shared} {fn : Prop} {wr : List Addr}

/-! dicts on the side of data -/
noncomputable def dget : List Str → List D → Str → Option D
  | k :: ks, d :: ds, x => if k = x then some d else dget ks ds x
  | _, _, _ => none
noncomputable def drep : List Str → List D → Str → D → List D
  | k :: ks, d :: ds, x, e => (if k = x then e else d) :: drep ks ds x e
  | _, _, _, _ => []
noncomputable def dsetK (ks : List Str) (x : Str) : List Str := if x ∈ ks then ks else ks ++ [x]
noncomputable def dsetD (ks : List Str) (ds : List D) (x : Str) (e : D) : List D := if x ∈ ks then drep ks ds x e else ds ++ [e]

theorem valueAt_of {x : Str} : ∀ {kvs : List (Str × Value)} {ds : List D}, RepL w R ds (kvs.map (·.2)) → (dget (kvs.map (·.1)) ds x = none ∧ valueAt kvs x = none) ∨ ∃ d v, dget (kvs.map (·.1)) ds x = some d ∧ valueAt kvs x = some v ∧ Rep w R d v
  | [], _, h => by cases h; exact .inl ⟨rfl, rfl⟩
  | (y, v) :: kvs, _, h => by
    cases h with
    | @cons d ds _ _ r rs =>
      by_cases e : y = x
      · exact .inr ⟨d, v, by simp [dget, e], by simp [valueAt, e], r⟩
      · have := valueAt_of (x := x) rs
        simpa [dget, valueAt, e] using this
theorem dget_mem {x : Str} : ∀ {ks : List Str} {ds : List D}, ds.length = ks.length → ((dget ks ds x).isSome ↔ x ∈ ks)
  | [], [], _ => by simp [dget]
  | y :: ks, d :: ds, h => by
    have := dget_mem (x := x) (ks := ks) (ds := ds) (by simpa using h)
    by_cases e : y = x
    · subst e; simp [dget]
    · have : x ≠ y := fun z => e z.symm
      simp [dget, e, this, ‹(dget ks ds x).isSome ↔ _›]
theorem stored_of {x : Str} {v : Value} {d : D} {kvs : List (Str × Value)} {ds : List D} (h : RepL w R ds (kvs.map (·.2))) (r : Rep w R d v) :
    (stored kvs x v).map (·.1) = dsetK (kvs.map (·.1)) x ∧ RepL w R (dsetD (kvs.map (·.1)) ds x d) ((stored kvs x v).map (·.2)) := by
  have hm : (kvs.any fun kv => kv.1 = x) = true ↔ x ∈ kvs.map (·.1) := by
    simp
  by_cases e : x ∈ kvs.map (·.1)
  · have e' := hm.mpr e
    unfold stored dsetK dsetD
    rw [if_pos e', if_pos e, if_pos e]
    clear hm e e'
    constructor
    · rw [List.map_map]; apply List.map_congr_left; intro kv _; dsimp; split <;> simp_all
    · induction kvs generalizing ds with
      | nil => cases h; exact .nil
      | cons kv kvs ih =>
        cases h
        rename_i q qs
        simp only [List.map_cons, drep]
        refine .cons ?_ (ih qs)
        by_cases ey : kv.1 = x
        · simp [ey]; exact r
        · simp [ey]; exact q
  · have e' : ¬ (kvs.any fun kv => kv.1 = x) = true := fun z => e (hm.mp z)
    unfold stored dsetK dsetD
    rw [if_neg e', if_neg e, if_neg e]
    exact ⟨by simp, by simpa using h.append (.cons r .nil)⟩
/-! what a dict answers -/
theorem dictAt_of {a : Addr} {kvs : List (Str × Value)} {ep : Nat} (x : h.DictAt (PySem.strKind PG w) a kvs ep) : h.DictOf (PySem.strKind PG w) a kvs := let ⟨o, es, r1, r2, r3, r⟩ := x; ⟨o, es, ep, r1, r2, r3, r⟩
theorem dictOf_at {a : Addr} {kvs : List (Str × Value)} (x : h.DictOf (PySem.strKind PG w) a kvs) : ∃ ep, h.DictAt (PySem.strKind PG w) a kvs ep := let ⟨o, es, ep, r1, r2, r3, r⟩ := x; ⟨ep, o, es, r1, r2, r3, r⟩
theorem is_str (x : Str) (t : Tok) : (PySem.strKind PG w).is x (.str x t) = true := by simp [PySem.strKind, Value.isStrOf]

theorem item_dict {ks : List Str} {ds : List D} {x : Str} {d : D} (hd : dget ks ds x = some d) : OpItem w k (.dict ks ds) (.str x) d := fun A R s va vb c ra rb => by
  cases ra with
  | @dict a kvs ep _ _ z hl e rs =>
    replace rb := rb.str_inv
    obtain ⟨t, rfl⟩ := rb
    subst e
    have hl' := dictAt_of (dictAt_mono c.ext hl)
    rcases valueAt_of (x := x) rs with ⟨e, _⟩ | ⟨d', v, e1, e2, r⟩
    · rw [hd] at e; cases e
    · rw [hd] at e1; cases e1
      exact ⟨⟨_, _, hl'.typeIs, PySem.slot_dict_getitem.lookup⟩, wpAny_getItem_of (is_str x t) hl'.mapOf e2 ⟨R, .tok c _, r⟩⟩
theorem op_in_dict {ks : List Str} {ds : List D} {x : Str} : Op2 w k (compareOp .In) (.str x) (.dict ks ds) (.bool (dget ks ds x).isSome) := fun A R s va vb c ra rb => by
  cases rb with
  | @dict a kvs ep _ _ z hl e rs =>
    replace ra := ra.str_inv
    obtain ⟨t, rfl⟩ := ra
    subst e
    have hl' := dictAt_of (dictAt_mono c.ext hl)
    have : (valueAt kvs x).isSome = (dget (kvs.map (·.1)) ds x).isSome := by rcases valueAt_of (x := x) rs with ⟨e1, e2⟩ | ⟨d', v, e1, e2, r⟩ <;> rw [e1, e2] <;> rfl
    exact wpAny_in_of (is_str x t) z hl'.mapOf (by rw [this]; exact ⟨R, .tok c _, .bool _⟩)
theorem op_notIn_dict {ks : List Str} {ds : List D} {x : Str} : Op2 w k (compareOp .NotIn) (.str x) (.dict ks ds) (.bool (!(dget ks ds x).isSome)) := fun A R s va vb c ra rb => by
  cases rb with
  | @dict a kvs ep _ _ z hl e rs =>
    replace ra := ra.str_inv
    obtain ⟨t, rfl⟩ := ra
    subst e
    have hl' := dictAt_of (dictAt_mono c.ext hl)
    have : (valueAt kvs x).isSome = (dget (kvs.map (·.1)) ds x).isSome := by rcases valueAt_of (x := x) rs with ⟨e1, e2⟩ | ⟨d', v, e1, e2, r⟩ <;> rw [e1, e2] <;> rfl
    exact wpAny_notIn_of (is_str x t) z hl'.mapOf (by rw [this]; exact ⟨R, .tok c _, .bool _⟩)
theorem meth_dict_get {ks : List Str} {ds : List D} : Meth w (.dict ks ds) "get" (.builtin "dict.get") := fun {A R s v pl Q E} l r h => by
  cases r with
  | @dict a kvs ep _ _ z hl e rs =>
    have hl' := dictAt_of (dictAt_mono l hl)
    exact getMethod_builtin hl'.typeIs PySem.F.plainAttrs_dict PySem.F.slot_dict_get PySem.F.type_dict_get hl'.mapOf.noDict h
theorem op_dict_get {ks : List Str} {ds : List D} {x : Str} {e : D} : OpL w k (fun vs => call (.builtin "dict.get") vs) [.dict ks ds, .str x, e] ((dget ks ds x).getD e) := fun A R s vs c r => by
  replace r := r.cons_inv
  obtain ⟨_, _, rfl, r1, r⟩ := r
  replace r := r.cons_inv
  obtain ⟨_, _, rfl, r2, r⟩ := r
  replace r := r.cons_inv
  obtain ⟨_, _, rfl, r3, r⟩ := r
  cases r
  cases r1 with
  | @dict a kvs ep _ _ z hl e rs =>
    replace r2 := r2.str_inv
    obtain ⟨t, rfl⟩ := r2
    subst e
    have hl' := dictAt_of (dictAt_mono c.ext hl)
    refine call_meetsIn PySem.F.slot_dict_get hl'.typeIs PySem.F.entry_dict_get (PySem.F.args_dict_get_3 _ _ _) (meets_dict_get_default (PySem.strKind PG w) a (is_str x t) z _) ⟨_, hl'.mapOf, R, .tok c _, ?_⟩
    rcases valueAt_of (x := x) rs with ⟨e1, e2⟩ | ⟨d', v, e1, e2, r⟩ <;> rw [e1, e2]
    · exact r3
    · exact r

/-! dict displays -/
noncomputable def EvPairs (w : World) (k : Nat) (sc : Scope) (σ : St) (ps : List (PySem.Expr × PySem.Expr)) (kds : List (Str × D)) (σ' : St) : Prop :=
  ∀ pos, Jd w k sc σ (fun env => evalPairs (ps.map fun p => (eval p.1 env, (do let x ← eval p.2 env; standAt pos; pure x)))) (fun R vs => ∃ kvs, Carries (PySem.strKind PG w) vs kvs ∧ kvs.map (·.1) = kds.map (·.1) ∧ RepL w R (kds.map (·.2)) (kvs.map (·.2))) σ'
theorem evPairs_nil : EvPairs w k sc σ [] [] σ := fun pos A F h₀ R s rm S => evalPairs_nil ⟨R, .refl .., S, [], trivial, rfl, .nil⟩
theorem evPairs_cons {a b : PySem.Expr} {ps : List (PySem.Expr × PySem.Expr)} {x : Str} {d : D} {kds : List (Str × D)} (ha : Ev w k sc σ a (.str x) σ₁) (hb : Ev w k sc σ₁ b d σ₂) (h : EvPairs w k sc σ₂ ps kds σ') : EvPairs w k sc σ ((a, b) :: ps) ((x, d) :: kds) σ' := fun pos A F h₀ R s rm S => by
  refine evalPairs_cons (wp_then (ha A F h₀ R s rm S) fun va R₁ s₁ st₁ S₁ q₁ => wpAny_bind (wp_then (hb A F h₀ R₁ s₁ rm S₁) fun vb R₂ s₂ st₂ S₂ q₂ => wpAny_bind (wpAny_standAt (wpAny_pure (wp_then (h pos A F h₀ R₂ s₂ rm S₂) fun vs R₃ s₃ st₃ S₃ q₃ => ?_)))))
  obtain ⟨kvs, c, e, r⟩ := q₃
  replace q₁ := q₁.str_inv
  obtain ⟨t, rfl⟩ := q₁
  exact ⟨R₃, (st₁.trans st₂).trans st₃, S₃, (x, vb) :: kvs, ⟨is_str x t, rfl, c⟩, by simp [e], .cons (q₂.mono st₃.le) r⟩
theorem merged_self {kvs : List (Str × Value)} (h : (kvs.map (·.1)).Nodup) : merged [] kvs = kvs := by
  have : ∀ (more acc : List (Str × Value)), ((acc ++ more).map (·.1)).Nodup → more.foldl (fun acc kv => stored acc kv.1 kv.2) acc = acc ++ more := by
    intro more
    induction more with
    | nil => intro acc _; simp
    | cons kv more ih =>
      intro acc hn
      rw [List.foldl_cons]
      have hno : stored acc kv.1 kv.2 = acc ++ [kv] := by
        unfold stored
        rw [if_neg]
        simp only [List.any_eq_true, decide_eq_true_eq, not_exists, not_and]
        intro y hy e
        rw [List.map_append, List.nodup_append] at hn
        exact hn.2.2 _ (List.mem_map_of_mem (f := (·.1)) hy) _ (by simp) e
      rw [hno, ih (acc ++ [kv]) (by simpa using hn)]
      simp
  have := this kvs [] (by simpa using h)
  simpa [merged] using this
theorem Sat.notSys (S : Sat w A sc F h₀ σ R s) : (s.heap.objs.size == sysModules) = false := by
  obtain ⟨mg, o, es, ep, ho, _⟩ := S.base.g
  obtain ⟨_, o', e', _⟩ := S.old _ _ ho
  have := Heap.lt_size e'
  rw [beq_eq_false_iff_ne]
  intro z
  rw [z] at this
  exact absurd this (by decide)
theorem evN_dict0 {pos : Pos} : EvN w k sc σ (.Dict [] [] pos) (.dict [] []) σ := fun A F h₀ R s rm S => by
  have n := get_size s.heap
  have l := Le.push s.heap { cls := .type "dict", data := .dict #[] }
  refine wpAny_Dict_empty ⟨R, s.heap.objs.size, .heap, S.push (t := s.toks) _, rfl, ?_, S.off_new n, fun m x e hn hx => at_push S l n hn hx⟩
  obtain ⟨ep, hd⟩ := dictOf_at (w := w) (Heap.DictOf.new (knd := PySem.strKind PG w) s.heap)
  exact .dict S.notSys hd rfl .nil
theorem evN_dict {keys : List (Option PySem.Expr)} {values : List PySem.Expr} {pos : Pos} {ps : List (PySem.Expr × PySem.Expr)} {kds : List (Str × D)} (h : EvPairs w k sc σ ps kds σ') (hn : (kds.map (·.1)).Nodup) (h0 : ps ≠ [] := by simp) (hl : ps.length ≤ 15 := by decide)
    (hshape : ∀ env, (evalEachOpt keys env).zip ((evalEach values env).map fun v => do let x ← v; standAt pos; pure x) = (ps.map fun p => (eval p.1 env, (do let x ← eval p.2 env; standAt pos; pure x))).map fun p => (some p.1, p.2) := by intro _; rfl) :
    EvN w k sc σ (.Dict keys values pos) (.dict (kds.map (·.1)) (kds.map (·.2))) σ' := fun A F h₀ R s rm S => by
  have n := get_size s.heap
  have l := Le.push s.heap { cls := .type "dict", data := .dict #[] }
  have O := offW_new S n
  have Y := dynW_new S l n ⟨_, Heap.get?_push_size _ rfl⟩
  have S₀ := S.push (t := s.toks) { cls := .type "dict", data := .dict #[] }
  refine wpAny_Dict_pairs (knd := PySem.strKind PG w) (hshape _) (by simpa using h0) (by simpa using hl) (wpAny_mono (run_locked S₀ O Y fun SL => h pos A F _ R _ rm SL) ?_ fun _ _ e => e.elim)
  rintro vs s₁ ⟨R₁, st₁, S₁, Y₁, keep, kvs, c, e, r⟩
  refine ⟨kvs, c, ?_, fun h' hd sb => ?_⟩
  · obtain ⟨o, es, ep, g, q⟩ := Heap.DictOf.new (knd := PySem.strKind PG w) s.heap
    exact ⟨o, es, ep, keep _ (List.mem_singleton.mpr rfl) _ g, q⟩
  · rw [merged_self (by rw [e]; exact hn)] at hd
    obtain ⟨ep, hd⟩ := dictOf_at hd
    obtain ⟨S₂, Y₂⟩ := S₁.growBut (t := s₁.toks + vs.length) (d := s₁.drawn) (h' := h') O Y₁ (R' := R₁) (.of fun b o nb e => (sb.2 b fun z => nb (List.mem_singleton.mpr z)).trans e) (.refl R₁)
      (fun b o e => (sb.2 b fun z => nomatch (Y₁.r _ (List.mem_singleton.mpr z)).symm.trans e).trans (S₁.ext _ _ e)) (fun b o e => .inl e)
    have Y₂ := Y₂ (fun a ha => by rw [List.mem_singleton] at ha; subst ha; obtain ⟨o, es, g, _⟩ := hd; exact ⟨o, g⟩) Y₁.r
    refine ⟨R₁, s.heap.objs.size, (Step.heap (h := s.heap.push _) (t := s.toks)).trans (st₁.trans .heap), S₂, rfl, .dict ?_ hd e r, ?_, fun m x d hn hx => Y₂.own _ (List.mem_singleton.mpr rfl) m x d hn hx⟩
    · exact S.notSys
    · have Of := S.off_new n
      exact { Of with r := Y₁.r _ (List.mem_singleton.mpr rfl) }
end
end Mine
end

noncomputable section
open PySem PySem.W PyProof.Rows PySem.SeqAt
namespace Mine
section
variable {w : World} {k : Nat} {A : Around} {sc : Scope} {F : FrS} {h₀ R R' R'' h h' : Heap} {σ σ' σ₁ σ₂ σ₃ : St} {s s' s'' : Shared} {fn : Prop} {wr : List Addr}

/-- kinds of comparable data -/
inductive Ty where
  | int | str
  | list (t : Ty)
@[reducible] noncomputable def Ty.el : Ty → Type
  | .int => Int
  | .str => Str
  | .list t => List t.el
noncomputable def Ty.deq : (t : Ty) → DecidableEq t.el
  | .int => (inferInstance : DecidableEq Int)
  | .str => (inferInstance : DecidableEq Str)
  | .list t => @instDecidableEqList t.el (t.deq)
noncomputable instance (t : Ty) : DecidableEq t.el := t.deq
noncomputable def Ty.enc : (t : Ty) → t.el → D
  | .int, i => .int i
  | .str, s => .str s
  | .list t, xs => .list (xs.map t.enc)
noncomputable def Ty.depth : Ty → Nat
  | .list t => t.depth + 1
  | _ => 0

theorem isList_inj {a : Addr} {vs us : Array Value} (x : h.IsList a vs) (y : h.IsList a us) : vs = us := by
  obtain ⟨o, ho, _, n, hd⟩ := x
  obtain ⟨o', ho', _, n', hd'⟩ := y
  rw [ho] at ho'; cases ho'; rw [hd] at hd'; cases hd'; rfl
theorem repL_inj {t : Ty} (h : ∀ {x y : t.el} {v : Value}, Rep w R (t.enc x) v → Rep w R (t.enc y) v → x = y) : ∀ {xs ys : List t.el} {vs : List Value}, RepL w R (xs.map t.enc) vs → RepL w R (ys.map t.enc) vs → xs = ys
  | [], ys, _, a, b => by
    cases a
    cases ys with
    | nil => rfl
    | cons y ys => cases b
  | x :: xs, ys, _, a, b => by
    replace a := a.cons_inv
    obtain ⟨_, _, rfl, a, as⟩ := a
    cases ys with
    | nil => cases b
    | cons y ys => cases b with
      | cons b bs => rw [h a b, repL_inj h as bs]
theorem rep_inj : ∀ (t : Ty) {x y : t.el} {v : Value}, Rep w R (t.enc x) v → Rep w R (t.enc y) v → x = y
  | .int, _, _, _, a, b => by cases a; cases b; rfl
  | .str, _, _, _, a, b => by cases a; cases b; rfl
  | .list t, xs, ys, _, a, b => by
    replace a := a.list_inv
    obtain ⟨_, _, rfl, h, r⟩ := a
    replace b := b.list_inv
    obtain ⟨_, _, eqv, h', r'⟩ := b
    cases eqv
    have := isList_inj h h'
    have this := congrArg Array.toList this
    simp only at this
    subst this
    exact repL_inj (rep_inj t) r r'
theorem in1_units (A : Around) : A.in1.units ≤ A.units + 8 := by simp [Around.in1]
theorem eqAt : ∀ (t : Ty) {x y : t.el} {v u : Value} {A : Around}, Le R s.heap → A.units + 8 * t.depth < cLine → Rep w R (t.enc x) v → Rep w R (t.enc y) u → EqAt A s v u (decide (x = y))
  | .int, x, y, _, _, A, _, _, a, b => by
    cases a; cases b
    exact EqAt.int_int _ _ _ _
  | .str, x, y, _, _, A, _, _, a, b => by
    cases a; cases b
    exact EqAt.str_str _ _ _ _
  | .list t, xs, ys, v, u, A, l, hu, a, b => by
    by_cases e : v = u
    · subst e
      rw [rep_inj (.list t) a b, decide_eq_true rfl]
      exact EqAt.same v
    replace a := a.list_inv
    obtain ⟨p, vs, rfl, h, r⟩ := a
    replace b := b.list_inv
    obtain ⟨q, us, rfl, h', r'⟩ := b
    have e1 := r.length
    have e2 := r'.length
    simp only [List.length_map] at e1 e2
    have hu' : A.units < cLine := by omega
    by_cases hl : xs.length = ys.length
    · have key := RcAt.lists (s := s) (A := A) (e := fun j => if h : j < xs.length ∧ j < ys.length then decide (xs[j] = ys[j]) else false) (isList_mono l h) (isList_mono l h') (by simp [e1, e2, hl]) hu' fun j h1 h2 => by
        simp only [List.size_toArray, e1, e2] at h1 h2
        rw [dif_pos ⟨h1, h2⟩]
        obtain ⟨v', hv, rv⟩ := r.get (i := j) (d := t.enc xs[j]) (by simp [h1])
        obtain ⟨u', hu'', ru⟩ := r'.get (i := j) (d := t.enc ys[j]) (by simp [h2])
        have a1 : vs.toArray[j] = v' := by
          have := List.getElem?_eq_some_iff.mp hv
          obtain ⟨_, q⟩ := this
          simpa using q
        have a2 : us.toArray[j] = u' := by
          obtain ⟨_, q⟩ := List.getElem?_eq_some_iff.mp hu''
          simpa using q
        rw [a1, a2]
        exact eqAt t l (by have := in1_units A; simp only [Ty.depth] at hu; omega) rv ru
      have hb : ((List.range vs.toArray.size).all fun j => if h : j < xs.length ∧ j < ys.length then decide (xs[j] = ys[j]) else false) = decide ((xs : List t.el) = ys) := by
        rw [List.size_toArray, e1, Bool.eq_iff_iff]
        simp only [List.all_eq_true, List.mem_range, decide_eq_true_eq]
        constructor
        · intro q
          refine List.ext_getElem hl fun i h1 h2 => ?_
          have := q i h1
          rw [dif_pos ⟨h1, h2⟩] at this
          exact of_decide_eq_true this
        · intro q i h1
          subst q
          rw [dif_pos ⟨h1, h1⟩]; exact decide_eq_true rfl
      rw [hb] at key
      exact .of_refs (fun z => e (z ▸ rfl)) key
    · have := RcAt.lists_lengths (s := s) (A := A) (isList_mono l h) (isList_mono l h') (by simpa [e1, e2] using hl) hu'
      have hne : ¬ xs = ys := fun z => hl (congrArg List.length z)
      have q0 : ∀ i : Decidable (xs = ys), @decide _ i = false := fun i => decide_eq_false hne
      rw [q0]
      exact .of_refs (fun z => e (z ▸ rfl)) this
theorem room_units {A : Around} (rm : Room k A) (n : Nat) (h : n ≤ 8 := by decide) : A.units + 8 * n < cLine := by have := rm.u; unfold cLine; omega

open Classical in
theorem in_ty_core (t : Ty) {x : t.el} {xs : List t.el} (hd : t.depth ≤ 7) {va : Value} {vs : List Value} (c : Cx w k A R s) (ra : Rep w R (t.enc x) va) (rs : RepL w R (xs.map t.enc) vs) :
    ∃ e : Value → Bool, (∀ y, y ∈ vs.toArray → EqAt A.in1 s y va (e y)) ∧ vs.toArray.any e = decide (x ∈ xs) := by
    let e : Value → Bool := fun y => decide (∃ z, z ∈ xs ∧ Rep w R (t.enc z) y ∧ z = x)
    have he : ∀ y, y ∈ vs.toArray → EqAt A.in1 s y va (e y) := fun y hy => by
      obtain ⟨j, hj⟩ := List.getElem?_of_mem (by simpa using hy : y ∈ vs)
      obtain ⟨d, hd', ry⟩ := rs.get' hj
      rw [List.getElem?_map] at hd'
      cases hz : xs[j]? with
      | none => rw [hz] at hd'; cases hd'
      | some z =>
        rw [hz] at hd'; cases hd'
        have := eqAt (s := s) (A := A.in1) t c.ext (by have := in1_units A; have := room_units c.room 8; omega) ry ra
        have ee : e y = decide (z = x) := by
          show decide _ = _
          rw [decide_eq_decide]
          constructor
          · rintro ⟨z', _, r', rfl⟩; exact rep_inj t ry r'
          · rintro rfl; exact ⟨z, List.mem_of_getElem? hz, ry, rfl⟩
        rw [ee]; exact this
    refine ⟨e, he, ?_⟩
    rw [Bool.eq_iff_iff]
    simp only [List.any_toArray, List.any_eq_true, decide_eq_true_eq]
    constructor
    · rintro ⟨y, _, hy⟩
      obtain ⟨z, hz, _, rfl⟩ := of_decide_eq_true hy
      exact hz
    · intro hx
      obtain ⟨j, hj⟩ := List.getElem?_of_mem hx
      obtain ⟨v, hv, rv⟩ := rs.get (i := j) (d := t.enc x) (by rw [List.getElem?_map, hj]; rfl)
      exact ⟨v, List.mem_of_getElem? hv, decide_eq_true ⟨x, hx, rv, rfl⟩⟩
theorem op_in_ty (t : Ty) {x : t.el} {xs : List t.el} (hd : t.depth ≤ 7 := by decide) : Op2 w k (compareOp .In) (t.enc x) (.list (xs.map t.enc)) (.bool (decide (x ∈ xs))) := fun A R s va vb c ra rb => by
  replace rb := rb.list_inv
  obtain ⟨a, vs, rfl, hl, rs⟩ := rb
  obtain ⟨e, he, hb⟩ := in_ty_core t hd c ra rs
  exact in_listAt e (isList_mono c.ext hl) he (by rw [hb]; exact ⟨R, .refl c, .bool _⟩)
theorem op_notIn_ty (t : Ty) {x : t.el} {xs : List t.el} (hd : t.depth ≤ 7 := by decide) : Op2 w k (compareOp .NotIn) (t.enc x) (.list (xs.map t.enc)) (.bool (!decide (x ∈ xs))) := fun A R s va vb c ra rb => by
  replace rb := rb.list_inv
  obtain ⟨a, vs, rfl, hl, rs⟩ := rb
  obtain ⟨e, he, hb⟩ := in_ty_core t hd c ra rs
  exact notIn_listAt e (isList_mono c.ext hl) he (by rw [hb]; exact ⟨R, .refl c, .bool _⟩)
theorem op_eq_ty (t : Ty) {x y : List t.el} (hd : t.depth ≤ 6 := by decide) : Op2 w k (compareOp .Eq) (.list (x.map t.enc)) (.list (y.map t.enc)) (.bool (decide (x = y))) := fun A R s va vb c ra rb => by
  have hu := room_units c.room 8
  replace ra := ra.list_inv
  obtain ⟨p, vs, rfl, h, r⟩ := ra
  replace rb := rb.list_inv
  obtain ⟨q, us, rfl, h', r'⟩ := rb
  have hl := isList_mono c.ext h
  have hl' := isList_mono c.ext h'
  have e1 := r.length
  have e2 := r'.length
  simp only [List.length_map] at e1 e2
  by_cases hz : x.length = y.length
  · have key := eq_listAt (prog := PG) (w := w) (s := s) (A := A) (E := fun _ _ => False) (Q := fun v s' => ∃ R', Mv A R R' s s' ∧ Rep w R' (.bool (decide (x = y))) v) (e := fun j => if h : j < x.length ∧ j < y.length then decide (x[j] = y[j]) else false) hl hl' (by simp [e1, e2, hz]) (by omega) (fun j h1 h2 => by
      simp only [List.size_toArray, e1, e2] at h1 h2
      rw [dif_pos ⟨h1, h2⟩]
      obtain ⟨v', hv, rv⟩ := r.get (i := j) (d := t.enc x[j]) (by simp [h1])
      obtain ⟨u', hu'', ru⟩ := r'.get (i := j) (d := t.enc y[j]) (by simp [h2])
      have a1 : vs.toArray[j] = v' := by obtain ⟨_, q⟩ := List.getElem?_eq_some_iff.mp hv; simpa using q
      have a2 : us.toArray[j] = u' := by obtain ⟨_, q⟩ := List.getElem?_eq_some_iff.mp hu''; simpa using q
      rw [a1, a2]
      exact eqAt t c.ext (by have := in1_units A; omega) rv ru) ?_
    · exact key
    · have hb : ((List.range vs.toArray.size).all fun j => if h : j < x.length ∧ j < y.length then decide (x[j] = y[j]) else false) = decide (x = y) := by
        rw [List.size_toArray, e1, Bool.eq_iff_iff]
        simp only [List.all_eq_true, List.mem_range, decide_eq_true_eq]
        constructor
        · intro q
          refine List.ext_getElem hz fun i h1 h2 => ?_
          have := q i h1
          rw [dif_pos ⟨h1, h2⟩] at this
          exact of_decide_eq_true this
        · intro q i h1
          subst q
          rw [dif_pos ⟨h1, h1⟩]; exact decide_eq_true rfl
      rw [hb]; exact ⟨R, .refl c, .bool _⟩
  · refine eq_list_lengthsAt hl hl' (by simpa [e1, e2] using hz) (by omega) ?_
    have hne : ¬ x = y := fun z => hz (congrArg List.length z)
    rw [← decide_eq_false hne]
    exact ⟨R, .refl c, .bool _⟩

/-! lists -/
theorem op_add_list {ds es : List D} (hz : ds.length + es.length ≤ sizeLine) : Op2 w k (binaryOp .Add) (.list ds) (.list es) (.list (ds ++ es)) := fun A R s va vb c ra rb => by
  replace ra := ra.list_inv
  obtain ⟨a, vs, rfl, h, r⟩ := ra
  replace rb := rb.list_inv
  obtain ⟨b, us, rfl, h', r'⟩ := rb
  obtain ⟨⟨cls, dd, data, sl⟩, ho, hc, n, hd⟩ := isList_mono c.ext h
  obtain ⟨⟨cls2, dd2, data2, sl2⟩, ho2, hc2, n2, hd2⟩ := isList_mono c.ext h'
  simp only at hc hd hc2 hd2
  subst hc hd hc2 hd2
  have n := get_size s.heap
  have l := Le.push s.heap { cls := .type "list", data := .seq (vs.toArray ++ us.toArray) }
  refine PySem.concat_meets ⟨_, ho, rfl⟩ ⟨_, ho2, rfl⟩ PySem.noFill_list_add PySem.seq_list_add PySem.F.slot_list_add PySem.F.entry_list_add (PySem.F.args_list_add_2 _ _) (list_addW a b vs.toArray us.toArray _ n2 dd dd2 sl sl2 (by simpa [r.length, r'.length] using hz)) ⟨ho, ho2, ?_⟩
  refine ⟨_, Mv.add (t := s.toks) (d := s.drawn) c l n, .list ⟨_, addR_self (c.ext.trans l) (Heap.get?_push_size _ rfl), rfl, 0, by rw [List.append_toArray]⟩ ((r.append r').mono (addR_le (c.ext.trans l) _))⟩
theorem op_len_list {ds : List D} (hz : ds.length ≤ sizeLine) : OpL w k (fun vs => call (.builtin "len") vs) [.list ds] (.int ds.length) := fun A R s vs c r => by
  replace r := r.cons_inv
  obtain ⟨_, _, rfl, r, n⟩ := r
  cases n
  replace r := r.list_inv
  obtain ⟨a, us, rfl, h, r⟩ := r
  have e := r.length
  exact PyProof.Rows.len_list (isList_mono c.ext h) (by simp only [sizeLine, List.size_toArray] at *; omega) (by rw [List.size_toArray, e]; exact ⟨R, .tok c _, .int _ _⟩)
theorem truth_tup {ds : List D} (hz : ds.length ≤ sizeLine) : Truth w k (.tup ds) (!ds.isEmpty) := fun A R s v c r => by
  replace r := r.tup_inv
  obtain ⟨a, us, rfl, h, r⟩ := r
  have e := r.length
  refine truthy_tuple (isTuple_mono c.ext h) (by simp only [sizeLine, List.size_toArray] at *; omega) ⟨?_, .tok c _⟩
  cases us <;> cases ds <;> simp_all
end
end Mine
end

noncomputable section
open PySem PySem.W PyProof.Rows PySem.SeqAt
namespace Mine
section
variable {w : World} {k : Nat} {A : Around} {sc : Scope} {F : FrS} {h₀ R R' R'' h h' : Heap} {σ σ' σ₁ σ₂ σ₃ : St} {s s' s'' : Shared} {fn : Prop} {wr : List Addr}

/-- x[key] = value of an own dict -/
theorem ex_setitem {x : Str} {p tpos pos : Pos} {slice value : PySem.Expr} {ks : List Str} {ds : List D} {y : Str} {d : D} (hv : Ev w k sc σ value d σ₁) (q : σ₁.lookup x = some (.own (.dict ks ds))) (hi : Ev w k sc σ₁ slice (.str y) σ₂) (q' : σ₂.lookup x = some (.own (.dict ks ds)))
    (hz : ks.length ≤ sizeLine) (hx : sc.names.lookup x = some .local) (hk : sc.kind = .function := by rfl) (hdb : (x == ("__debug__" : Str)) = false := by decide)
    (hs : ∀ F, swapsWith value (some (.Subscript (.Name x p) slice tpos)) pos.line (mkEnv sc F) = pure false := by intro _; rfl) :
    Ex w k sc σ (.Assign [.Subscript (.Name x p) slice tpos] value pos) .next (put σ₂ x (.own (.dict (dsetK ks y) (dsetD ks ds y d)))) := fun A F h₀ R s hf lh rm S => by
  refine wpAny_Assign_Subscript (wp_then (hv A F h₀ R s rm S) fun v R₁ s₁ st₁ S₁ q₁ => ?_) (hs _)
  obtain ⟨m, V⟩ := S₁.vars
  obtain ⟨a, hm, _⟩ := S₁.ownAt V.ns q hx
  refine wpAny_Name (wpAny_loadName_local hk hx V.ns hm (wpAny_mono (jd_keepL (t := fun env => eval slice env) hi rm S₁ V.ns) ?_ fun _ _ e => e.elim)) hdb
  rintro u s₂ ⟨R₂, st₂, S₂, r₂, hn⟩
  have o₂ := S₂.ownMid hn q' hx hm
  cases o₂ with
  | @dict _ kvs ep _ _ z hd e rs =>
    replace r₂ := r₂.str_inv
    obtain ⟨t, rfl⟩ := r₂
    subst e
    refine wpAny_setItem_pairs (knd := PySem.strKind PG w) (is_str y t) (dictAt_of hd) (fun h' hd' sb => ?_) (by simpa using hz)
    obtain ⟨ep', hd'⟩ := dictOf_at hd'
    obtain ⟨e1, e2⟩ := stored_of (x := y) (v := v) (d := d) rs (q₁.mono st₂.le)
    exact ⟨R₂, (st₁.trans st₂).trans .heap, S₂.updOwn (t := s₂.toks + 1) q' hn (.loc hx hm) sb (.dict z hd' e1 e2), .next⟩

theorem ex_assign_tuple {ts : List PySem.Expr} {n : Nat} {p pos : Pos} {value : PySem.Expr} {d : D} (h : Ev w k sc σ value d σ₁) (ha : Asg w k sc True σ₁ (.Tuple ts n p) d σ')
    (hs : ∀ F, swapsWithSole [.Tuple ts n p] value pos.line (mkEnv sc F) = pure false := by intro _; rfl)
    (hw : ∀ F, swappedStores [.Tuple ts n p] value (mkEnv sc F) = pure none := by intro _; rfl) : Ex w k sc σ (.Assign [.Tuple ts n p] value pos) .next σ' := fun A F h₀ R s hf lh rm S =>
  Assign_Tuple (wp_then (h A F h₀ R s rm S) fun v R₁ s₁ st₁ S₁ q₁ => wpAny_mono (ha A F h₀ R₁ s₁ v (fun _ => hf) lh rm S₁ q₁) (fun _ s₂ ⟨R₂, st₂, S₂⟩ => ⟨R₂, st₁.trans st₂, S₂, .next⟩) fun _ _ e => e.elim) (hs _) (hw _)
theorem ex_assign_two {t₁ t₂ : PySem.Expr} {pos : Pos} {value : PySem.Expr} {d : D} (h : Ev w k sc σ value d σ₁) (ha : Asg w k sc True σ₁ t₁ d σ₂) (hb : Asg w k sc True σ₂ t₂ d σ')
    (he : ∀ F, (assignEach [t₁, t₂] (mkEnv sc F)).map (·.2) = [assign t₁ (mkEnv sc F), assign t₂ (mkEnv sc F)] := by intro _; rfl)
    (hw : ∀ F, swappedStores [t₁, t₂] value (mkEnv sc F) = pure none := by intro _; rfl) : Ex w k sc σ (.Assign [t₁, t₂] value pos) .next σ' := fun A F h₀ R s hf lh rm S =>
  wpAny_Assign_two (wp_then (h A F h₀ R s rm S) fun v R₁ s₁ st₁ S₁ q₁ => wpAny_mono (ha A F h₀ R₁ s₁ v (fun _ => hf) lh rm S₁ q₁) (fun _ s₂ ⟨R₂, st₂, S₂⟩ => wpAny_mono (hb A F h₀ R₂ s₂ v (fun _ => hf) lh rm S₂ (q₁.mono st₂.le)) (fun _ s₃ ⟨R₃, st₃, S₃⟩ => ⟨R₃, (st₁.trans st₂).trans st₃, S₃, .next⟩) fun _ _ e => e.elim) fun _ _ e => e.elim) (he _) (hw := hw _)

/-- a while loop that runs n times -/
theorem ex_while {test : PySem.Expr} {body : List Stmt} {pos : Pos} {n : Nat} (σs σt : Nat → St) (h0 : ∀ x sl, (σs 0).lookup x = some sl → σ.lookup x = some sl)
    (go : ∀ i, i < n → Tr w k sc (σs i) test true (σt i) ∧ ∃ fl, (fl = .next ∨ fl = .cont) ∧ Exs w k sc (σt i) body fl (σs (i + 1))) (stop : Tr w k sc (σs n) test false σ') :
    Ex w k sc σ (.While test body [] pos) .next σ' := fun A F h₀ R s hf lh rm S => by
  refine wpAny_While (codeAny_mono (codeAny_whileLoop (prog := PG) (w := w) (A := A) (R := fun r s' => ∃ R', r = .ok .next ∧ Step h₀ R R' s s' ∧ Sat w A sc F h₀ σ' R' s')
    (fun j s' => ∃ i R', j = n - i ∧ i ≤ n ∧ Step h₀ R R' s s' ∧ Sat w A sc F h₀ (σs i) R' s') ?_ (n - 0) ⟨0, R, rfl, Nat.zero_le _, .refl .., S.weaken h0⟩) ?_)
  · rintro _ s₁ ⟨i, R₁, rfl, hin, st₁, S₁⟩
    by_cases hlt : i < n
    · obtain ⟨tr, fl, hfl, hb⟩ := go i hlt
      refine wp_then (tr A F h₀ R₁ s₁ rm S₁) fun b R₂ s₂ st₂ S₂ e => ?_
      subst e
      rw [if_pos rfl]
      refine wpAny_mono (hb A F h₀ R₂ s₂ hf lh rm S₂) ?_ fun _ _ e => e.elim
      rintro f s₃ ⟨R₃, st₃, S₃, q⟩
      have : ∃ m, m < n - i ∧ ∃ i' R', m = n - i' ∧ i' ≤ n ∧ Step h₀ R R' s s₃ ∧ Sat w A sc F h₀ (σs i') R' s₃ := ⟨n - (i + 1), by omega, i + 1, R₃, rfl, hlt, (st₁.trans st₂).trans st₃, S₃⟩
      rcases hfl with rfl | rfl <;> (cases q; exact this)
    · have : i = n := Nat.le_antisymm hin (Nat.not_lt.mp hlt)
      subst this
      refine wp_then (stop A F h₀ R₁ s₁ rm S₁) fun b R₂ s₂ st₂ S₂ e => ?_
      subst e
      rw [if_neg (by decide)]
      exact wpAny_execs_nil ⟨R₂, rfl, st₁.trans st₂, S₂⟩
  · rintro r s' ⟨R', rfl, st, S'⟩
    exact ⟨R', st, S', .next⟩

/-! more on ints -/
theorem op_divmod {a b : Int} (hb : b ≠ 0) (hp : Builtin.divisionGoesByPylong a b = false) : OpL w k (fun vs => call (.builtin "divmod") vs) [.int a, .int b] (.tup [.int (a.fdiv b), .int (a.fmod b)]) := fun A R s vs c r => by
  replace r := r.cons_inv
  obtain ⟨_, _, rfl, r, n⟩ := r
  replace n := n.cons_inv
  obtain ⟨_, _, rfl, r', n⟩ := n
  cases n; cases r; cases r'
  have n := get_size s.heap
  refine PyProof.Rows.divmod_int (hp := .inl hp) hb ⟨_, Mv.add (t := s.toks + 1 + 1) (d := s.drawn) c (Le.push s.heap _) n, .tup ⟨_, addR_self (c.ext.trans (Le.push s.heap _)) (Heap.get?_push_size _ rfl), rfl, 0, rfl⟩ (.cons (.int _ _) (.cons (.int _ _) .nil))⟩
theorem op_floordiv_int {a b : Int} (h : b ≠ 0) (hp : Builtin.divisionGoesByPylong a b = false) : Op2 w k (binaryOp .FloorDiv) (.int a) (.int b) (.int (a.fdiv b)) := fun A R s va vb c ra rb => by
  cases ra; cases rb; exact PyProof.Rows.floordiv_int (hp := .inl hp) h ⟨R, .tok c _, .int _ _⟩
theorem op_lt_int {a b : Int} : Op2 w k (compareOp .Lt) (.int a) (.int b) (.bool (decide (a < b))) := fun A R s va vb c ra rb => by
  cases ra; cases rb; exact PyProof.Rows.lt_int ⟨R, .refl c, .bool _⟩
theorem noPylong {a b : Int} (h : b.natAbs < 2 ^ 30) : Builtin.divisionGoesByPylong a b = false := by
  unfold Builtin.divisionGoesByPylong
  simp only [Bool.and_eq_false_iff]
  left
  by_cases e : b = 0
  · subst e; rfl
  · have h1 : b.natAbs.log2 < 30 := (Nat.log2_lt (by omega)).mpr h
    refine decide_eq_false ?_
    show ¬ ((if (b == 0) = true then 0 else b.natAbs.log2 / 30 + 1) > 300)
    split <;> omega
theorem op_mul4_int {b : Int} : Op2 w k (binaryOp .Mult) (.int 4) (.int b) (.int (4 * b)) := fun A R s va vb c ra rb => by
  cases ra; cases rb; exact PyProof.Rows.mul_int ⟨R, .tok c _, .int _ _⟩
theorem op_iadd_int {a b : Int} : Op2 w k (inplaceOp .Add) (.int a) (.int b) (.int (a + b)) := fun A R s va vb c ra rb => by
  cases ra; cases rb; exact PyProof.Rows.iadd_int ⟨R, .tok c _, .int _ _⟩
theorem ev_neg {e : PySem.Expr} {pos : Pos} {a : Int} (h : Ev w k sc σ e (.int a) σ') : Ev w k sc σ (.UnaryOp .USub e pos) (.int (-a)) σ' := fun A F h₀ R s rm S =>
  wpAny_UnaryOp (wp_then (h A F h₀ R s rm S) fun v R₁ s₁ st₁ S₁ q₁ => by
    cases q₁
    exact PyProof.Rows.neg_int ⟨R₁, st₁.trans .tok, S₁.tok _, .int _ _⟩)
theorem op_min_int {a b : Int} : OpL w k (fun vs => call (.builtin "min") vs) [.int a, .int b] (.int (if b < a then b else a)) := fun A R s vs c r => by
  replace r := r.cons_inv
  obtain ⟨_, _, rfl, r, n⟩ := r
  replace n := n.cons_inv
  obtain ⟨_, _, rfl, r', n⟩ := n
  cases n; cases r; cases r'
  refine min_two_ints c.room.h fun h' tk l => ⟨R, Mv.keep (t := tk) (d := s.drawn) c l, ?_⟩
  split <;> exact .int _ _
end
end Mine
end

noncomputable section
open PySem PySem.W PyProof.Rows PySem.SeqAt PySem.Spec
namespace Mine

/-! the order of texts -/
noncomputable def leS (a b : Str) : Bool := !(decide (b.cps.toList < a.cps.toList))
theorem leS_iff {a b : Str} : leS a b = true ↔ ¬ b.cps.toList < a.cps.toList := by simp [leS]
theorem leS_trans {a b c : Str} (h : leS a b = true) (g : leS b c = true) : leS a c = true := by
  rw [leS_iff] at *
  rw [List.not_lt] at *
  exact List.le_trans h g
theorem leS_total (a b : Str) : (leS a b || leS b a) = true := by
  rw [Bool.or_eq_true, leS_iff, leS_iff, List.not_lt, List.not_lt]
  exact List.le_total _ _
theorem leS_antisymm {a b : Str} (h : leS a b = true) (g : leS b a = true) : a = b := by
  rw [leS_iff, List.not_lt] at *
  have := List.le_antisymm h g
  obtain ⟨⟨x⟩⟩ := a
  obtain ⟨⟨y⟩⟩ := b
  simp only at this
  rw [this]
/-- the texts in order -/
noncomputable def sortS (l : List Str) : List Str := l.mergeSort leS
theorem sortS_perm (l : List Str) : (sortS l).Perm l := List.mergeSort_perm ..
theorem sortS_pairwise (l : List Str) : (sortS l).Pairwise fun a b => leS a b = true := List.pairwise_mergeSort (le := leS) (fun _ _ _ => leS_trans) leS_total l
theorem sorted_unique {l l' : List Str} (p : l.Perm l') (h : l.Pairwise fun a b => leS a b = true) (h' : l'.Pairwise fun a b => leS a b = true) : l = l' :=
  List.Perm.eq_of_pairwise (fun _ _ _ _ => leS_antisymm) h h' p
theorem sortS_congr {l l' : List Str} (p : l.Perm l') : sortS l = sortS l' :=
  sorted_unique (((sortS_perm l).trans p).trans (sortS_perm l').symm) (sortS_pairwise l) (sortS_pairwise l')
theorem ltCps_dec (x y : List Nat) : ltCps x y = decide (x < y) := by
  exact (ltCps_eq x y)
theorem rising_pairwise : ∀ (l : List Str) (p : Str), risingS p l = true → (p :: l).Pairwise fun a b => leS a b = true
  | [], _, _ => by simp
  | x :: r, p, h => by
    simp only [risingS, Bool.and_eq_true, Bool.not_eq_true'] at h
    have ih := rising_pairwise r x h.2
    have hx : leS p x = true := by unfold leS; rw [← ltCps_dec, h.1]; rfl
    refine List.Pairwise.cons (fun y hy => ?_) ih
    rcases List.mem_cons.mp hy with rfl | hy
    · exact hx
    · exact leS_trans hx (List.rel_of_pairwise_cons ih hy)
theorem sortedS_pairwise {l : List Str} (h : sortedS l = true) : l.Pairwise fun a b => leS a b = true := by
  cases l with
  | nil => exact .nil
  | cons x r => exact rising_pairwise r x h
theorem sortS_of {l l' : List Str} (p : l'.Perm l) (h : sortedS l' = true) : l' = sortS l :=
  sorted_unique (p.trans (sortS_perm l).symm) (sortedS_pairwise h) (sortS_pairwise l)

section
variable {w : World} {k : Nat} {A : Around} {sc : Scope} {F : FrS} {h₀ R R' R'' h h' : Heap} {σ σ' σ₁ σ₂ σ₃ : St} {s s' s'' : Shared} {fn : Prop} {wr : List Addr}
theorem op_sorted_list {ss : List Str} (h64 : ss.length < 64) : OpL w k (fun vs => call (.builtin "sorted") vs) [.list (ss.map .str)] (.list ((sortS ss).map .str)) := fun A R s vs c r => by
  replace r := r.cons_inv
  obtain ⟨_, _, rfl, r, n⟩ := r
  cases n
  replace r := r.list_inv
  obtain ⟨a, us, rfl, hl, rs⟩ := r
  have e := rs.length
  rw [List.length_map] at e
  refine sorted_strs (isList_mono c.ext hl) rs.strs (by omega) fun out ss' a1 a2 a3 => ?_
  rw [← sortS_of a2 a3]
  obtain ⟨e', he⟩ := sortedAll_at s.heap us out
  have l : Le s.heap (sortedAll s.heap us out) := fun _ _ => sortedAll_old
  have n : s.heap.get? (s.heap.objs.size + 1) = none := none_of fun o e => absurd (Heap.lt_size e) (Nat.not_lt.mpr (Nat.le_succ _))
  exact ⟨_, Mv.add (t := s.toks) (d := s.drawn) c l n, .list ⟨_, addR_self (c.ext.trans l) he, rfl, e', rfl⟩ ((RepL.of_strs a1))⟩
theorem strsAre_of : ∀ {vs : List Value} {ss : List Str}, vs.length = ss.length → (∀ (j : Nat) (v : Value), vs[j]? = some v → ∃ y, ss[j]? = some y ∧ (PySem.strKind PG w).is y v = true) → StrsAre vs ss
  | [], [], _, _ => .nil
  | v :: vs, y :: ss, hl, h => by
    obtain ⟨y', e, q⟩ := h 0 v rfl
    simp at e; subst e
    obtain ⟨t, rfl⟩ := Value.isStrOf_shape q
    exact .cons y t (strsAre_of (by simpa using hl) fun j v e => by simpa using h (j + 1) v (by simpa using e))
theorem sorted_dict_core {a : Addr} {kvs : List (Str × Value)} {ep : Nat} {E : Value → Shared → Prop} {Q : Value → Shared → Prop} (hh : A.handled = none) (z : (a == sysModules) = false) (hd : s.heap.DictAt (PySem.strKind PG w) a kvs ep) (h64 : kvs.length < 64)
    (hq : ∀ D h' tk vs e, (∀ b o, s.heap.get? b = some o → h'.get? b = some o) → s.heap.get? D = none → StrsAre vs (sortS (kvs.map (·.1))) → h'.get? D = some (seqObj "list" vs.toArray e) → Q (.ref D) { s with heap := h', toks := tk }) :
    wpAny (MM w) A (call (.builtin "sorted") [.ref a]) Q E s := by
  refine Calls.call_function_entry kind_sorted plain_sorted entry_sorted (args_sorted1 _) ?_
  unfold Builtin.«sorted»
  refine wpAny_bind (m := checkCount "sorted" 1 1 _) (wpAny_pure ?_)
  refine wpAny_bind (kdu_collect (A := A.in1) (kdl_dict (knd := PySem.strKind PG w) (kvs := kvs) (ep := ep) z) hh hd (by rw [sizeLine_eq]; omega) fun h₁ tk acc hk hacc => ?_)
  have hl : acc.toList.length = kvs.length := by rw [Array.length_toList]; exact hacc.1
  have hS : StrsAre acc.toList (kvs.map (·.1)) := by
    refine strsAre_of (w := w) (by simpa using hl) fun j v e => ?_
    obtain ⟨k', x, h1, h2⟩ := hacc.2 j v (by rw [← Array.getElem?_toList]; exact e)
    exact ⟨k', by rw [List.getElem?_map, h1]; rfl, h2⟩
  refine wpAny_bind (wpAny_newList ?_ (by rw [hl, sizeLine_eq]; omega))
  have hoL : (h₁.push (seqObj "list" acc.toList.toArray 0)).get? h₁.objs.size = some (seqObj "list" acc.toList.toArray 0) := Heap.get?_push_size _ rfl
  show wpAny _ _ _ _ _ { s with heap := h₁.push (seqObj "list" acc.toList.toArray 0), toks := tk }
  refine wpAny_bind (wpAny_holding (wpAny_call_entry PyProof.Rows.slot_list_sort ⟨_, hoL, rfl⟩ PyProof.Rows.entry_list_sort (list_sort_treeK strKind_oneLt hoL hS.keysOf (fun v₁ v₂ rest e => keyKind_strs (by rw [← e]; exact hS)) (by omega) fun st' a1 a2 => ⟨_, rfl, ?_⟩) (PyProof.Rows.args_list_sort _)))
  refine wpAny_pure ⟨_, rfl, ?_⟩
  obtain ⟨ss', b1, b2, b3⟩ := sorted_out_str hS a1 a2
  obtain ⟨e', he⟩ := sortedHeap_at (out := (arrOf st').map (·.2)) hoL
  rw [sortS_of b2 b3] at b1
  refine hq h₁.objs.size _ tk _ e' (fun b o e => ?_) ?_ b1 he
  · have hlt := Heap.lt_size (hk b o e)
    rw [sortedHeap_old (Nat.ne_of_lt hlt) (by rw [size_push']; exact Nat.lt_succ_of_lt hlt), Heap.get?_push_ne _ _ _ (Nat.ne_of_lt hlt)]
    exact hk b o e
  · exact none_of fun o e => absurd (Heap.lt_size (hk _ _ e)) (Nat.lt_irrefl _)
theorem op_sorted_dict {ks : List Str} {ds : List D} (h64 : ks.length < 64) : OpL w k (fun vs => call (.builtin "sorted") vs) [.dict ks ds] (.list ((sortS ks).map .str)) := fun A R s vs c r => by
  replace r := r.cons_inv
  obtain ⟨_, _, rfl, r, n⟩ := r
  cases n
  cases r with
  | @dict a kvs ep _ _ z hl e rs =>
    subst e
    refine sorted_dict_core c.room.h z (dictAt_mono c.ext hl) (by simpa using h64) fun D h' tk us e l n hS he => ?_
    exact ⟨_, Mv.add (t := tk) (d := s.drawn) c l n, .list ⟨_, addR_self (c.ext.trans l) he, rfl, e, rfl⟩ (RepL.of_strs hS)⟩
end
end Mine
end

noncomputable section
open PySem PySem.W PyProof.Rows PySem.SeqAt
namespace Mine
section
variable {w : World} {k : Nat} {A : Around} {sc : Scope} {F : FrS} {h₀ R R' R'' h h' : Heap} {σ σ' σ₁ σ₂ σ₃ : St} {s s' s'' : Shared} {fn : Prop} {wr : List Addr}

theorem strs_values {vs : List Value} {ss : List Str} (S : StrsAre vs ss) : ∃ l : List (Str × Tok), vs = strValues l ∧ l.map (·.1) = ss := by
  induction S with
  | nil => exact ⟨[], rfl, rfl⟩
  | cons y t r ih =>
    obtain ⟨l, rfl, rfl⟩ := ih
    exact ⟨(y, t) :: l, rfl, rfl⟩
theorem are_values : ∀ (l : List (Str × Tok)), StrsAre (strValues l) (l.map (·.1))
  | [] => .nil
  | (y, t) :: l => .cons y t (are_values l)
theorem meth_split {x : Str} : Meth w (.str x) "split" (.builtin "str.split") := fun _ r h => by cases r; exact GM.split h
theorem split_push {x y : Str} {t u : Tok} {Q : Value → Shared → Prop} {E : Value → Shared → Prop} (hy : (y.length == 0) = false)
    (hq : ∀ l k, l.map (·.1) = Txt.split x y → Q (.ref s.heap.objs.size) { s with heap := s.heap.push { cls := .type "list", data := .seq (strValues l).toArray }, toks := k })
    (hsz : x.length ≤ sizeLine) (hsz2 : (Builtin.Str.partsBetween x (Builtin.Str.occurrences x y 0 x.length (x.length + 1)) y.length).length ≤ sizeLine) :
    wpAny (MM w) A (call (.builtin "str.split") [.str x t, .str y u]) Q E s := by
  cases h1 : (decide (x.length < y.length) || decide (Builtin.Str.strKind x < Builtin.Str.strKind y))
  · cases hf : (Builtin.Str.occurrences x y 0 x.length (x.length + 1)).isEmpty
    · refine call_meets PySem.F.slot_str_split (typeIs_str _ _ _) PySem.F.entry_str_split (PySem.F.args_str_split_2 _ _) (meets_str_split_sep x y t u h1 hy hf hsz hsz2) ?_
      show wants Q E _ { s with toks := _, heap := s.heap.push { cls := .type "list", data := .seq (strsFrom s.toks (Builtin.Str.partsBetween x (Builtin.Str.occurrences x y 0 x.length (x.length + 1)) y.length)).toArray } }
      rw [strsFrom_eq]
      exact hq (numbered s.toks _) _ ((numbered_texts _ _).trans ((if_neg (ne_true_of_eq_false h1)).trans (if_neg (ne_true_of_eq_false hf))).symm)
    · exact call_meets PySem.F.slot_str_split (typeIs_str _ _ _) PySem.F.entry_str_split (PySem.F.args_str_split_2 _ _) (meets_str_split_not_found x y t u h1 hy hf)
        (hq [(x, t)] s.toks ((if_neg (ne_true_of_eq_false h1)).trans (if_pos hf)).symm)
  · exact call_meets PySem.F.slot_str_split (typeIs_str _ _ _) PySem.F.entry_str_split (PySem.F.args_str_split_2 _ _) (meets_str_split_cannot_occur x y t u h1)
      (hq [(x, t)] s.toks (if_pos h1).symm)
theorem op_split {x y : Str} (hy : (y.length == 0) = false) (hx : x.length ≤ sizeLine) (hz : (Builtin.Str.partsBetween x (Builtin.Str.occurrences x y 0 x.length (x.length + 1)) y.length).length ≤ sizeLine) :
    OpL w k (fun vs => call (.builtin "str.split") vs) [.str x, .str y] (.list ((Txt.split x y).map .str)) := fun A R s vs c r => by
  replace r := r.cons_inv
  obtain ⟨_, _, rfl, r, n⟩ := r
  replace n := n.cons_inv
  obtain ⟨_, _, rfl, r', n⟩ := n
  cases n; cases r; cases r'
  refine split_push hy (fun l k e => ?_) hx hz
  rw [← e]
  have n := get_size s.heap
  exact ⟨_, Mv.add (t := k) (d := s.drawn) c (Le.push s.heap _) n, .list ⟨_, addR_self (c.ext.trans (Le.push s.heap _)) (Heap.get?_push_size _ rfl), rfl, 0, rfl⟩ (RepL.of_strs (are_values l))⟩
theorem meth_join {x : Str} : Meth w (.str x) "join" (.builtin "str.join") := fun _ r h => by cases r; exact GM.join h
theorem op_join {x : Str} {ss : List Str} (hok : JoinOk x ss = true) : OpL w k (fun vs => call (.builtin "str.join") vs) [.str x, .list (ss.map .str)] (.str (Txt.join x ss)) := fun A R s vs c r => by
  replace r := r.cons_inv
  obtain ⟨_, _, rfl, r, n⟩ := r
  replace n := n.cons_inv
  obtain ⟨_, _, rfl, r', n⟩ := n
  cases n; cases r
  replace r' := r'.list_inv
  obtain ⟨a, us, rfl, hl, rs⟩ := r'
  obtain ⟨l, e1, e2⟩ := strs_values rs.strs
  subst e1
  exact SC.join (isList_mono c.ext hl) e2 hok fun t' k => ⟨R, .tok c _, .str _ _⟩

/-! if 'y' in text: text = text.replace('y', 'z') -/
noncomputable def esc1 (x y z : Str) : Str := if (Builtin.Str.occurrences x y 0 x.length 1).isEmpty then x else Txt.replace x y z
theorem ex_escape {t : Str} {y z x : Str} {p1 p2 p3 p4 p5 p6 p7 p8 p9 p10 p11 : Pos} {k1 k2 k3 : Nat} (q : σ.lookup t = some (.fz (.str x))) (hyz : (y == z) = false) (hb : x.length + (x.length + 1) * z.length ≤ 16777216)
    (hx : sc.names.lookup t = some .local) (hk : sc.kind = .function := by rfl) (hdb : (t == ("__debug__" : Str)) = false := by decide)
    (hm : behindInMarks .In (.Name t p2) = false := by with_unfolding_all rfl)
    (he : ∀ sc F, ∃ pl, eval (.Call (.Attribute (.Name t p5) "replace" p6) [.Constant (.str y) k2 p7, .Constant (.str z) k3 p8] [] p9) (mkEnv sc F) = (do
      let ov ← eval (.Name t p5) (mkEnv sc F)
      standAt p6.atName
      let (f, first) ← holding [ov] (getMethod ov "replace" pl)
      callWith p9 f first (backTo p9 (starEach [.Constant (.str y) k2 p7, .Constant (.str z) k3 p8] (mkEnv sc F))) []) := by intro _ _; exact ⟨_, rfl⟩) :
    Ex w k sc σ (.If (.Compare (.Constant (.str y) k1 p1) [.In] [.Name t p2] p3) [.Assign [.Name t p4] (.Call (.Attribute (.Name t p5) "replace" p6) [.Constant (.str y) k2 p7, .Constant (.str z) k3 p8] [] p9) p10] [] p11) .next (put σ t (.fz (.str (esc1 x y z)))) := fun A F h₀ R s hf lh rm S => by
  obtain ⟨m, V⟩ := S.vars
  obtain ⟨v, a, ok⟩ := V.at_ t _ q
  cases ok with
  | fz r =>
    replace r := r.str_inv
    obtain ⟨tx, rfl⟩ := r
    have hm' : m t = some (.str x tx) := by
      rcases a with ⟨k', e⟩ | ⟨k', e, i⟩ | ⟨k', e, i⟩
      · exact e
      · exact nomatch hx.symm.trans k'
      · exact nomatch hx.symm.trans k'
    have load : ∀ {s' : Shared} {Q : Value → Shared → Prop} {E : Value → Shared → Prop} {p : Pos}, s'.heap = s.heap → Q (.str x tx) s' → wpAny (MM w) A (eval (.Name t p) (mkEnv sc F)) Q E s' := fun {s' Q E p} e hq => wpAny_Name (wpAny_loadName_local hk hx (e ▸ V.ns) hm' hq) hdb
    refine wpAny_If (wpAny_isTrue_Compare1 ?_ hm)
    show wpAny (MM w) A (mkText y) _ _ s
    refine wpAny_mkText (load rfl (PyProof.Rows.in_str ?_))
    cases ho : (Builtin.Str.occurrences x y 0 x.length 1).isEmpty with
    | true =>
      refine wpAny_truthy_bool ?_
      show wpAny (MM w) A (execs [] (mkEnv sc F)) _ _ _
      refine wpAny_execs_nil ⟨R, .tok, (S.tok _).weaken fun x' sl e => ?_, .next⟩
      rw [lookup_put] at e
      by_cases ex : x' = t
      · rw [if_pos ex] at e; cases e; subst ex; rw [q]; simp [esc1, ho]
      · rw [if_neg ex] at e; exact e
    | false =>
      refine wpAny_truthy_bool ?_
      show wpAny (MM w) A (execs [_] (mkEnv sc F)) _ _ _
      refine wpAny_execs_cons ?_
      rw [exec_Assign_Name _ _ _ _ _ rfl]
      refine wpAny_bind (wpAny_standAt (wpAny_bind ?_))
      obtain ⟨pl, he⟩ := he sc F
      refine MethodCall_ (pl := pl) (load rfl (GM.replace ?_)) he
      refine (callOk_builtin (w := w) "str.replace") rfl ?_
      refine Calls.spliced_cons ?_
      show wpAny (MM w) A (mkText y) _ _ _
      refine wpAny_mkText (Calls.spliced_cons ?_)
      show wpAny (MM w) A (mkText z) _ _ _
      refine wpAny_mkText (Calls.spliced_nil ⟨((S.tok (s.toks + 1 + 1 + 1)).cx rm).base.k, ?_⟩)
      refine SC.replace (by simp) (by simp) (by simp) hyz hb fun t' k' => ?_
      refine wpAny_bind (wpAny_standAt (wpAny_bind ?_))
      have S' := S.tok k'
      refine wpAny_mono (wpAny_bindName (store_local S' lh (.str (Txt.replace x y z) t') hx hk)) ?_ fun _ _ e => e.elim
      rintro _ s₃ ⟨R₃, st₃, S₃⟩
      refine wpAny_pure (wpAny_execs_nil ⟨R₃, Step.trans .tok st₃, ?_, .next⟩)
      have : esc1 x y z = Txt.replace x y z := by simp [esc1, ho]
      rw [this]; exact S₃
end
end Mine
end

noncomputable section
open PySem PySem.W PyProof.Rows PySem.SeqAt
namespace Mine
section
variable {w : World} {k : Nat} {sc : Scope} {σ : St} {pos : Pos}
theorem nm_len (hx : sc.names.lookup (Str.ofString "len") = some .globalImplicit := by rfl) (hk : sc.kind = .function := by rfl) : Ev w k sc σ (.Name "len" pos) (.val (.builtin "len")) σ := ev_builtin (fun w => by kernel_rfl) (by kernel_rfl) (by decide) hx hk
theorem nm_isinstance (hx : sc.names.lookup (Str.ofString "isinstance") = some .globalImplicit := by rfl) (hk : sc.kind = .function := by rfl) : Ev w k sc σ (.Name "isinstance" pos) (.val (.builtin "isinstance")) σ := ev_builtin (fun w => by kernel_rfl) (by kernel_rfl) (by decide) hx hk
theorem nm_bytes (hx : sc.names.lookup (Str.ofString "bytes") = some .globalImplicit := by rfl) (hk : sc.kind = .function := by rfl) : Ev w k sc σ (.Name "bytes" pos) (.val (.type "bytes")) σ := ev_builtin (fun w => by kernel_rfl) (by kernel_rfl) (by decide) hx hk
theorem nm_tuple (hx : sc.names.lookup (Str.ofString "tuple") = some .globalImplicit := by rfl) (hk : sc.kind = .function := by rfl) : Ev w k sc σ (.Name "tuple" pos) (.val (.type "tuple")) σ := ev_builtin (fun w => by kernel_rfl) (by kernel_rfl) (by decide) hx hk
theorem nm_map (hx : sc.names.lookup (Str.ofString "map") = some .globalImplicit := by rfl) (hk : sc.kind = .function := by rfl) : Ev w k sc σ (.Name "map" pos) (.val (.type "map")) σ := ev_builtin (fun w => by kernel_rfl) (by kernel_rfl) (by decide) hx hk
theorem nm_min (hx : sc.names.lookup (Str.ofString "min") = some .globalImplicit := by rfl) (hk : sc.kind = .function := by rfl) : Ev w k sc σ (.Name "min" pos) (.val (.builtin "min")) σ := ev_builtin (fun w => by kernel_rfl) (by kernel_rfl) (by decide) hx hk
theorem nm_max (hx : sc.names.lookup (Str.ofString "max") = some .globalImplicit := by rfl) (hk : sc.kind = .function := by rfl) : Ev w k sc σ (.Name "max" pos) (.val (.builtin "max")) σ := ev_builtin (fun w => by kernel_rfl) (by kernel_rfl) (by decide) hx hk
theorem nm_enumerate (hx : sc.names.lookup (Str.ofString "enumerate") = some .globalImplicit := by rfl) (hk : sc.kind = .function := by rfl) : Ev w k sc σ (.Name "enumerate" pos) (.val (.type "enumerate")) σ := ev_builtin (fun w => by kernel_rfl) (by kernel_rfl) (by decide) hx hk
theorem nm_range (hx : sc.names.lookup (Str.ofString "range") = some .globalImplicit := by rfl) (hk : sc.kind = .function := by rfl) : Ev w k sc σ (.Name "range" pos) (.val (.type "range")) σ := ev_builtin (fun w => by kernel_rfl) (by kernel_rfl) (by decide) hx hk
theorem nm_divmod (hx : sc.names.lookup (Str.ofString "divmod") = some .globalImplicit := by rfl) (hk : sc.kind = .function := by rfl) : Ev w k sc σ (.Name "divmod" pos) (.val (.builtin "divmod")) σ := ev_builtin (fun w => by kernel_rfl) (by kernel_rfl) (by decide) hx hk
theorem nm_sorted (hx : sc.names.lookup (Str.ofString "sorted") = some .globalImplicit := by rfl) (hk : sc.kind = .function := by rfl) : Ev w k sc σ (.Name "sorted" pos) (.val (.builtin "sorted")) σ := ev_builtin (fun w => by kernel_rfl) (by kernel_rfl) (by decide) hx hk
theorem nm_list (hx : sc.names.lookup (Str.ofString "list") = some .globalImplicit := by rfl) (hk : sc.kind = .function := by rfl) : Ev w k sc σ (.Name "list" pos) (.val (.type "list")) σ := ev_builtin (fun w => by kernel_rfl) (by kernel_rfl) (by decide) hx hk
theorem nm_zip (hx : sc.names.lookup (Str.ofString "zip") = some .globalImplicit := by rfl) (hk : sc.kind = .function := by rfl) : Ev w k sc σ (.Name "zip" pos) (.val (.type "zip")) σ := ev_builtin (fun w => by kernel_rfl) (by kernel_rfl) (by decide) hx hk
theorem nm_str (hx : sc.names.lookup (Str.ofString "str") = some .globalImplicit := by rfl) (hk : sc.kind = .function := by rfl) : Ev w k sc σ (.Name "str" pos) (.val (.type "str")) σ := ev_builtin (fun w => by kernel_rfl) (by kernel_rfl) (by decide) hx hk
theorem nm_type (hx : sc.names.lookup (Str.ofString "type") = some .globalImplicit := by rfl) (hk : sc.kind = .function := by rfl) : Ev w k sc σ (.Name "type" pos) (.val (.type "type")) σ := ev_builtin (fun w => by kernel_rfl) (by kernel_rfl) (by decide) hx hk
theorem nm_issubclass (hx : sc.names.lookup (Str.ofString "issubclass") = some .globalImplicit := by rfl) (hk : sc.kind = .function := by rfl) : Ev w k sc σ (.Name "issubclass" pos) (.val (.builtin "issubclass")) σ := ev_builtin (fun w => by kernel_rfl) (by kernel_rfl) (by decide) hx hk
theorem nm_fspath (hx : sc.names.lookup (Str.ofString "fspath") = some .globalImplicit := by rfl) (hk : sc.kind = .function := by rfl) : Ev w k sc σ (.Name "fspath" pos) (.val (.ref 94)) σ := ev_glob (fun w => by kernel_rfl) hx hk
theorem ck_fspath : CallOk w (.ref 94) := callOk_K (by kernel_rfl)
theorem nm__get_sep (hx : sc.names.lookup (Str.ofString "_get_sep") = some .globalImplicit := by rfl) (hk : sc.kind = .function := by rfl) : Ev w k sc σ (.Name "_get_sep" pos) (.val (.ref 108)) σ := ev_glob (fun w => by kernel_rfl) hx hk
theorem ck__get_sep : CallOk w (.ref 108) := callOk_K (by kernel_rfl)
theorem nm_join (hx : sc.names.lookup (Str.ofString "join") = some .globalImplicit := by rfl) (hk : sc.kind = .function := by rfl) : Ev w k sc σ (.Name "join" pos) (.val (.ref 115)) σ := ev_glob (fun w => by kernel_rfl) hx hk
theorem ck_join : CallOk w (.ref 115) := callOk_K (by kernel_rfl)
theorem nm_dirname (hx : sc.names.lookup (Str.ofString "dirname") = some .globalImplicit := by rfl) (hk : sc.kind = .function := by rfl) : Ev w k sc σ (.Name "dirname" pos) (.val (.ref 122)) σ := ev_glob (fun w => by kernel_rfl) hx hk
theorem ck_dirname : CallOk w (.ref 122) := callOk_K (by kernel_rfl)
theorem nm_commonpath (hx : sc.names.lookup (Str.ofString "commonpath") = some .globalImplicit := by rfl) (hk : sc.kind = .function := by rfl) : Ev w k sc σ (.Name "commonpath" pos) (.val (.ref 127)) σ := ev_glob (fun w => by kernel_rfl) hx hk
theorem ck_commonpath : CallOk w (.ref 127) := callOk_K (by kernel_rfl)
theorem nm_sorted_list_difference (hx : sc.names.lookup (Str.ofString "sorted_list_difference") = some .globalImplicit := by rfl) (hk : sc.kind = .function := by rfl) : Ev w k sc σ (.Name "sorted_list_difference" pos) (.val (.ref 134)) σ := ev_glob (fun w => by kernel_rfl) hx hk
theorem ck_sorted_list_difference : CallOk w (.ref 134) := callOk_K (by kernel_rfl)
theorem nm__escape_attrib (hx : sc.names.lookup (Str.ofString "_escape_attrib") = some .globalImplicit := by rfl) (hk : sc.kind = .function := by rfl) : Ev w k sc σ (.Name "_escape_attrib" pos) (.val (.ref 148)) σ := ev_glob (fun w => by kernel_rfl) hx hk
theorem ck__escape_attrib : CallOk w (.ref 148) := callOk_K (by kernel_rfl)
theorem nm__escape_attrib_html (hx : sc.names.lookup (Str.ofString "_escape_attrib_html") = some .globalImplicit := by rfl) (hk : sc.kind = .function := by rfl) : Ev w k sc σ (.Name "_escape_attrib_html" pos) (.val (.ref 155)) σ := ev_glob (fun w => by kernel_rfl) hx hk
theorem ck__escape_attrib_html : CallOk w (.ref 155) := callOk_K (by kernel_rfl)
theorem nm__escape_attrib_c14n (hx : sc.names.lookup (Str.ofString "_escape_attrib_c14n") = some .globalImplicit := by rfl) (hk : sc.kind = .function := by rfl) : Ev w k sc σ (.Name "_escape_attrib_c14n" pos) (.val (.ref 162)) σ := ev_glob (fun w => by kernel_rfl) hx hk
theorem ck__escape_attrib_c14n : CallOk w (.ref 162) := callOk_K (by kernel_rfl)
theorem nm__law_drawn (hx : sc.names.lookup (Str.ofString "_law_drawn") = some .globalImplicit := by rfl) (hk : sc.kind = .function := by rfl) : Ev w k sc σ (.Name "_law_drawn" pos) (.val (.ref 169)) σ := ev_glob (fun w => by kernel_rfl) hx hk
theorem ck__law_drawn : CallOk w (.ref 169) := callOk_K (by kernel_rfl)
theorem nm__law_told (hx : sc.names.lookup (Str.ofString "_law_told") = some .globalImplicit := by rfl) (hk : sc.kind = .function := by rfl) : Ev w k sc σ (.Name "_law_told" pos) (.val (.ref 174)) σ := ev_glob (fun w => by kernel_rfl) hx hk
theorem ck__law_told : CallOk w (.ref 174) := callOk_K (by kernel_rfl)
theorem nm__law_written (hx : sc.names.lookup (Str.ofString "_law_written") = some .globalImplicit := by rfl) (hk : sc.kind = .function := by rfl) : Ev w k sc σ (.Name "_law_written" pos) (.val (.ref 181)) σ := ev_glob (fun w => by kernel_rfl) hx hk
theorem ck__law_written : CallOk w (.ref 181) := callOk_K (by kernel_rfl)
theorem nm__law_texts (hx : sc.names.lookup (Str.ofString "_law_texts") = some .globalImplicit := by rfl) (hk : sc.kind = .function := by rfl) : Ev w k sc σ (.Name "_law_texts" pos) (.val (.ref 186)) σ := ev_glob (fun w => by kernel_rfl) hx hk
theorem ck__law_texts : CallOk w (.ref 186) := callOk_K (by kernel_rfl)
theorem nm__law_spans (hx : sc.names.lookup (Str.ofString "_law_spans") = some .globalImplicit := by rfl) (hk : sc.kind = .function := by rfl) : Ev w k sc σ (.Name "_law_spans" pos) (.val (.ref 193)) σ := ev_glob (fun w => by kernel_rfl) hx hk
theorem ck__law_spans : CallOk w (.ref 193) := callOk_K (by kernel_rfl)
theorem nm__law_found (hx : sc.names.lookup (Str.ofString "_law_found") = some .globalImplicit := by rfl) (hk : sc.kind = .function := by rfl) : Ev w k sc σ (.Name "_law_found" pos) (.val (.ref 198)) σ := ev_glob (fun w => by kernel_rfl) hx hk
theorem ck__law_found : CallOk w (.ref 198) := callOk_K (by kernel_rfl)
end
theorem fn__get_sep (w : World) : ∃ fd, FnAt w 108 13 fd ∧ ∀ vs : List Value, vs.length = 1 → bindArgs fd ⟨vs, []⟩ = pure (([Str.ofString "path"] : List Str).zip vs) := by
  refine ⟨_, ⟨⟨_, _, _, rfl⟩, rfl, rfl, rfl, rfl, rfl, by kernel_rfl, by kernel_rfl⟩, ?_⟩
  intro vs hv
  obtain ⟨a, rfl⟩ := len1 hv; rfl
theorem fn_dirname (w : World) : ∃ fd, FnAt w 122 15 fd ∧ ∀ vs : List Value, vs.length = 1 → bindArgs fd ⟨vs, []⟩ = pure (([Str.ofString "p"] : List Str).zip vs) := by
  refine ⟨_, ⟨⟨_, _, _, rfl⟩, rfl, rfl, rfl, rfl, rfl, by kernel_rfl, by kernel_rfl⟩, ?_⟩
  intro vs hv
  obtain ⟨a, rfl⟩ := len1 hv; rfl
theorem fn_commonpath (w : World) : ∃ fd, FnAt w 127 16 fd ∧ ∀ vs : List Value, vs.length = 1 → bindArgs fd ⟨vs, []⟩ = pure (([Str.ofString "paths"] : List Str).zip vs) := by
  refine ⟨_, ⟨⟨_, _, _, rfl⟩, rfl, rfl, rfl, rfl, rfl, by kernel_rfl, by kernel_rfl⟩, ?_⟩
  intro vs hv
  obtain ⟨a, rfl⟩ := len1 hv; rfl
theorem fn_sorted_list_difference (w : World) : ∃ fd, FnAt w 134 18 fd ∧ ∀ vs : List Value, vs.length = 2 → bindArgs fd ⟨vs, []⟩ = pure (([Str.ofString "expected", Str.ofString "actual"] : List Str).zip vs) := by
  refine ⟨_, ⟨⟨_, _, _, rfl⟩, rfl, rfl, rfl, rfl, rfl, by kernel_rfl, by kernel_rfl⟩, ?_⟩
  intro vs hv
  obtain ⟨a, b, rfl⟩ := len2 hv; rfl
theorem fn__escape_attrib (w : World) : ∃ fd, FnAt w 148 21 fd ∧ ∀ vs : List Value, vs.length = 1 → bindArgs fd ⟨vs, []⟩ = pure (([Str.ofString "text"] : List Str).zip vs) := by
  refine ⟨_, ⟨⟨_, _, _, rfl⟩, rfl, rfl, rfl, rfl, rfl, by kernel_rfl, by kernel_rfl⟩, ?_⟩
  intro vs hv
  obtain ⟨a, rfl⟩ := len1 hv; rfl
theorem fn__escape_attrib_html (w : World) : ∃ fd, FnAt w 155 22 fd ∧ ∀ vs : List Value, vs.length = 1 → bindArgs fd ⟨vs, []⟩ = pure (([Str.ofString "text"] : List Str).zip vs) := by
  refine ⟨_, ⟨⟨_, _, _, rfl⟩, rfl, rfl, rfl, rfl, rfl, by kernel_rfl, by kernel_rfl⟩, ?_⟩
  intro vs hv
  obtain ⟨a, rfl⟩ := len1 hv; rfl
theorem fn__escape_attrib_c14n (w : World) : ∃ fd, FnAt w 162 23 fd ∧ ∀ vs : List Value, vs.length = 1 → bindArgs fd ⟨vs, []⟩ = pure (([Str.ofString "text"] : List Str).zip vs) := by
  refine ⟨_, ⟨⟨_, _, _, rfl⟩, rfl, rfl, rfl, rfl, rfl, by kernel_rfl, by kernel_rfl⟩, ?_⟩
  intro vs hv
  obtain ⟨a, rfl⟩ := len1 hv; rfl
theorem fn__law_drawn (w : World) : ∃ fd, FnAt w 169 25 fd ∧ ∀ vs : List Value, vs.length = 1 → bindArgs fd ⟨vs, []⟩ = pure (([Str.ofString "script"] : List Str).zip vs) := by
  refine ⟨_, ⟨⟨_, _, _, rfl⟩, rfl, rfl, rfl, rfl, rfl, by kernel_rfl, by kernel_rfl⟩, ?_⟩
  intro vs hv
  obtain ⟨a, rfl⟩ := len1 hv; rfl
theorem fn__law_told (w : World) : ∃ fd, FnAt w 174 26 fd ∧ ∀ vs : List Value, vs.length = 2 → bindArgs fd ⟨vs, []⟩ = pure (([Str.ofString "name", Str.ofString "kind"] : List Str).zip vs) := by
  refine ⟨_, ⟨⟨_, _, _, rfl⟩, rfl, rfl, rfl, rfl, rfl, by kernel_rfl, by kernel_rfl⟩, ?_⟩
  intro vs hv
  obtain ⟨a, b, rfl⟩ := len2 hv; rfl
theorem fn__law_written (w : World) : ∃ fd, FnAt w 181 27 fd ∧ ∀ vs : List Value, vs.length = 2 → bindArgs fd ⟨vs, []⟩ = pure (([Str.ofString "name", Str.ofString "kind"] : List Str).zip vs) := by
  refine ⟨_, ⟨⟨_, _, _, rfl⟩, rfl, rfl, rfl, rfl, rfl, by kernel_rfl, by kernel_rfl⟩, ?_⟩
  intro vs hv
  obtain ⟨a, b, rfl⟩ := len2 hv; rfl
theorem fn__law_texts (w : World) : ∃ fd, FnAt w 186 28 fd ∧ ∀ vs : List Value, vs.length = 3 → bindArgs fd ⟨vs, []⟩ = pure (([Str.ofString "row", Str.ofString "trees", Str.ofString "names"] : List Str).zip vs) := by
  refine ⟨_, ⟨⟨_, _, _, rfl⟩, rfl, rfl, rfl, rfl, rfl, by kernel_rfl, by kernel_rfl⟩, ?_⟩
  intro vs hv
  obtain ⟨a, b, c, rfl⟩ := len3 hv; rfl
theorem fn__law_spans (w : World) : ∃ fd, FnAt w 193 29 fd ∧ ∀ vs : List Value, vs.length = 2 → bindArgs fd ⟨vs, []⟩ = pure (([Str.ofString "text", Str.ofString "known"] : List Str).zip vs) := by
  refine ⟨_, ⟨⟨_, _, _, rfl⟩, rfl, rfl, rfl, rfl, rfl, by kernel_rfl, by kernel_rfl⟩, ?_⟩
  intro vs hv
  obtain ⟨a, b, rfl⟩ := len2 hv; rfl
theorem fn__law_found (w : World) : ∃ fd, FnAt w 198 30 fd ∧ ∀ vs : List Value, vs.length = 2 → bindArgs fd ⟨vs, []⟩ = pure (([Str.ofString "texts", Str.ofString "known"] : List Str).zip vs) := by
  refine ⟨_, ⟨⟨_, _, _, rfl⟩, rfl, rfl, rfl, rfl, rfl, by kernel_rfl, by kernel_rfl⟩, ?_⟩
  intro vs hv
  obtain ⟨a, b, rfl⟩ := len2 hv; rfl
theorem fn_law (w : World) : ∃ fd, FnAt w 203 31 fd ∧ ∀ vs : List Value, vs.length = 1 → bindArgs fd ⟨vs, []⟩ = pure (([Str.ofString "script"] : List Str).zip vs) := by
  refine ⟨_, ⟨⟨_, _, _, rfl⟩, rfl, rfl, rfl, rfl, rfl, by kernel_rfl, by kernel_rfl⟩, ?_⟩
  intro vs hv
  obtain ⟨a, rfl⟩ := len1 hv; rfl
end Mine
end

noncomputable section
open PySem PySem.W PyProof.Rows PySem.SeqAt
namespace Mine

theorem Tr.to {w : World} {k : Nat} {sc : Scope} {σ σ' : St} {e : PySem.Expr} {b c : Bool} (h : Tr w k sc σ e b σ') (q : b = c) : Tr w k sc σ e c σ' := q ▸ h
theorem Ev.to {w : World} {k : Nat} {sc : Scope} {σ σ' : St} {e : PySem.Expr} {d d' : D} (h : Ev w k sc σ e d σ') (q : d = d') : Ev w k sc σ e d' σ' := q ▸ h
theorem exs_keep {w : World} {k : Nat} {sc : Scope} {σ : St} : Exs w k sc σ [] .next σ := fun A F h₀ R s hf lh rm S => wpAny_execs_nil ⟨R, .refl .., S, .next⟩
theorem c_get_sep (w : World) (x : Str) : Contract w 1 (.ref 108) [.str x] (.str "/") := by
  obtain ⟨fd, X, hb⟩ := fn__get_sep w
  refine contract_def (k := 0) X [Str.ofString "path"] hb rfl (by decide) (by rfl) ⟨rfl, rfl, rfl⟩ ?_
  refine exs_stop (ex_if (tr_plain (ev_call nm_isinstance (callOk_builtin _) (evs_cons (ev_name (by rfl)) (evs_cons nm_bytes evs_nil)) op_isinstance_bytes) truth_bool) (fun h => by cases h) fun _ => exs_stop (ex_return ev_str) (by intro h; cases h)) (by intro h; cases h)

theorem c_fspath (w : World) (x : Str) : Contract w 1 (.ref 94) [.str x] (.str x) := by
  obtain ⟨fd, X, hb⟩ := fn_fspath w
  refine contract_def (k := 0) X [Str.ofString "path"] hb rfl (by decide) (by rfl) ⟨rfl, rfl, rfl⟩ ?_
  refine exs_cons (ex_assign (ev_call nm_type (callOk_type _) (evs_cons (ev_name (by rfl)) evs_nil) op_type_str) (asg_local (by rfl))) ?_
  exact exs_stop (ex_if (tr_plain (ev_call nm_issubclass (callOk_builtin _) (evs_cons (ev_name (by rfl)) (evs_cons (ev_tuple (evs_cons nm_str (evs_cons nm_bytes evs_nil))) evs_nil)) op_issub) truth_bool) (fun _ => exs_stop (ex_return (ev_name (by rfl))) (by intro h; cases h)) (fun h => by cases h)) (by intro h; cases h)

/-- what _escape_attrib and the others write -/
noncomputable def escX (x : Str) : Str := esc1 (esc1 (esc1 (esc1 (esc1 (esc1 (esc1 x "&" "&amp;") "<" "&lt;") ">" "&gt;") "\"" "&quot;") "\r" "&#13;") "\n" "&#10;") "\t" "&#09;"
noncomputable def escH (x : Str) : Str := esc1 (esc1 (esc1 x "&" "&amp;") ">" "&gt;") "\"" "&quot;"
noncomputable def escC (x : Str) : Str := esc1 (esc1 (esc1 (esc1 (esc1 (esc1 x "&" "&amp;") "<" "&lt;") "\"" "&quot;") "\t" "&#x9;") "\n" "&#xA;") "\r" "&#xD;"
noncomputable def escFits (x : Str) (l : List (Str × Str)) : Bool := match l with
  | [] => true
  | (y, z) :: l => decide (x.length + (x.length + 1) * z.length ≤ 16777216) && escFits (esc1 x y z) l
theorem c_escX (w : World) (x : Str) (h : escFits x [("&", "&amp;"), ("<", "&lt;"), (">", "&gt;"), ("\"", "&quot;"), ("\r", "&#13;"), ("\n", "&#10;"), ("\t", "&#09;")] = true) : Contract w 1 (.ref 148) [.str x] (.str (escX x)) := by
  obtain ⟨fd, X, hb⟩ := fn__escape_attrib w
  simp only [escFits, Bool.and_eq_true, decide_eq_true_eq] at h
  obtain ⟨h1, h2, h3, h4, h5, h6, h7, _⟩ := h
  refine contract_def (k := 0) X [Str.ofString "text"] hb rfl (by decide) (by rfl) ⟨rfl, rfl, rfl⟩ ?_
  refine exs_stop (ex_try_ret ?_) (by intro h; cases h)
  refine exs_cons (ex_escape (by rfl) (by decide) h1 (by rfl)) ?_
  refine exs_cons (ex_escape (by rfl) (by decide) h2 (by rfl)) ?_
  refine exs_cons (ex_escape (by rfl) (by decide) h3 (by rfl)) ?_
  refine exs_cons (ex_escape (by rfl) (by decide) h4 (by rfl)) ?_
  refine exs_cons (ex_escape (by rfl) (by decide) h5 (by rfl)) ?_
  refine exs_cons (ex_escape (by rfl) (by decide) h6 (by rfl)) ?_
  refine exs_cons (ex_escape (by rfl) (by decide) h7 (by rfl)) ?_
  exact exs_stop (ex_return (ev_name (by rfl))) (by intro h; cases h)

theorem c_escH (w : World) (x : Str) (h : escFits x [("&", "&amp;"), (">", "&gt;"), ("\"", "&quot;")] = true) : Contract w 1 (.ref 155) [.str x] (.str (escH x)) := by
  obtain ⟨fd, X, hb⟩ := fn__escape_attrib_html w
  simp only [escFits, Bool.and_eq_true, decide_eq_true_eq] at h
  obtain ⟨h1, h2, h3, _⟩ := h
  refine contract_def (k := 0) X [Str.ofString "text"] hb rfl (by decide) (by rfl) ⟨rfl, rfl, rfl⟩ ?_
  refine exs_stop (ex_try_ret ?_) (by intro h; cases h)
  refine exs_cons (ex_escape (by rfl) (by decide) h1 (by rfl)) ?_
  refine exs_cons (ex_escape (by rfl) (by decide) h2 (by rfl)) ?_
  refine exs_cons (ex_escape (by rfl) (by decide) h3 (by rfl)) ?_
  exact exs_stop (ex_return (ev_name (by rfl))) (by intro h; cases h)
theorem c_escC (w : World) (x : Str) (h : escFits x [("&", "&amp;"), ("<", "&lt;"), ("\"", "&quot;"), ("\t", "&#x9;"), ("\n", "&#xA;"), ("\r", "&#xD;")] = true) : Contract w 1 (.ref 162) [.str x] (.str (escC x)) := by
  obtain ⟨fd, X, hb⟩ := fn__escape_attrib_c14n w
  simp only [escFits, Bool.and_eq_true, decide_eq_true_eq] at h
  obtain ⟨h1, h2, h3, h4, h5, h6, _⟩ := h
  refine contract_def (k := 0) X [Str.ofString "text"] hb rfl (by decide) (by rfl) ⟨rfl, rfl, rfl⟩ ?_
  refine exs_stop (ex_try_ret ?_) (by intro h; cases h)
  refine exs_cons (ex_escape (by rfl) (by decide) h1 (by rfl)) ?_
  refine exs_cons (ex_escape (by rfl) (by decide) h2 (by rfl)) ?_
  refine exs_cons (ex_escape (by rfl) (by decide) h3 (by rfl)) ?_
  refine exs_cons (ex_escape (by rfl) (by decide) h4 (by rfl)) ?_
  refine exs_cons (ex_escape (by rfl) (by decide) h5 (by rfl)) ?_
  refine exs_cons (ex_escape (by rfl) (by decide) h6 (by rfl)) ?_
  exact exs_stop (ex_return (ev_name (by rfl))) (by intro h; cases h)

/-- what _law_written gives -/
noncomputable def writtenOf (x : Str) (kind : Int) : Str := if kind = 0 then escX x else if kind = 1 then escC x else escH x
noncomputable def writtenFits (x : Str) : Bool := escFits x [("&", "&amp;"), ("<", "&lt;"), (">", "&gt;"), ("\"", "&quot;"), ("\r", "&#13;"), ("\n", "&#10;"), ("\t", "&#09;")] && escFits x [("&", "&amp;"), (">", "&gt;"), ("\"", "&quot;")]
  && escFits x [("&", "&amp;"), ("<", "&lt;"), ("\"", "&quot;"), ("\t", "&#x9;"), ("\n", "&#xA;"), ("\r", "&#xD;")]
theorem c_written (w : World) (x : Str) (kind : Int) (h : writtenFits x = true) : Contract w 2 (.ref 181) [.str x, .int kind] (.str (writtenOf x kind)) := by
  obtain ⟨fd, X, hb⟩ := fn__law_written w
  unfold writtenFits at h
  simp only [Bool.and_eq_true] at h
  obtain ⟨⟨h1, h2⟩, h3⟩ := h
  refine contract_def (k := 1) X [Str.ofString "name", Str.ofString "kind"] hb rfl (by decide) (by rfl) ⟨rfl, rfl, rfl⟩ ?_
  by_cases e0 : kind = 0
  · refine exs_stop (ex_if (b := true) ((tr_compare (ev_name (by rfl)) ev_int op_eq_int).to (by simp [e0])) (fun _ => exs_stop (ex_return (ev_call nm__escape_attrib ck__escape_attrib (evs_cons (ev_name (by rfl)) evs_nil) (by unfold writtenOf; rw [if_pos e0]; exact (c_escX w x h1).op))) (by intro h; cases h)) (fun h => by cases h)) (by intro h; cases h)
  refine exs_cons (ex_if (b := false) (σ' := bound [Str.ofString "name", Str.ofString "kind"] [.str x, .int kind]) ((tr_compare (ev_name (by rfl)) ev_int op_eq_int).to (by simp [e0])) (fun h => by cases h) (fun _ => exs_keep)) ?_
  by_cases e1 : kind = 1
  · refine exs_stop (ex_if (b := true) ((tr_compare (ev_name (by rfl)) ev_int op_eq_int).to (by simp [e1])) (fun _ => exs_stop (ex_return (ev_call nm__escape_attrib_c14n ck__escape_attrib_c14n (evs_cons (ev_name (by rfl)) evs_nil) (by unfold writtenOf; rw [if_neg e0, if_pos e1]; exact (c_escC w x h3).op))) (by intro h; cases h)) (fun h => by cases h)) (by intro h; cases h)
  refine exs_cons (ex_if (b := false) (σ' := bound [Str.ofString "name", Str.ofString "kind"] [.str x, .int kind]) ((tr_compare (ev_name (by rfl)) ev_int op_eq_int).to (by simp [e1])) (fun h => by cases h) (fun _ => exs_keep)) ?_
  exact exs_stop (ex_return (ev_call nm__escape_attrib_html ck__escape_attrib_html (evs_cons (ev_name (by rfl)) evs_nil) (by unfold writtenOf; rw [if_neg e0, if_neg e1]; exact (c_escH w x h2).op))) (by intro h; cases h)
end Mine
end

noncomputable section
open PySem PySem.W PyProof.Rows PySem.SeqAt
namespace Mine
/-- what dirname gives -/
noncomputable def pyHead (p : Str) : Str := Txt.slice p none (some (Txt.rfind p "/" + 1))
noncomputable def pyDirname (p : Str) : Str := if pyHead p ≠ "" ∧ pyHead p ≠ Txt.mul "/" (pyHead p).length then Txt.rstripChars (pyHead p) "/" else pyHead p
theorem str_len0 {x : Str} : (x.length = 0) ↔ x = "" := by
  obtain ⟨a⟩ := x
  constructor
  · intro h
    have : a.size = 0 := h
    have : a = #[] := Array.eq_empty_of_size_eq_zero this
    subst this; rfl
  · intro h; rw [h]; rfl
theorem mulOk_sep (n : Nat) (h : n ≤ 1000000) : MulOk "/" n := by
  have e : (Str.ofString "/").length = 1 := rfl
  unfold MulOk
  rw [e]
  refine ⟨by simp; omega, fun h1 _ => ?_, fun _ _ => ?_⟩
  · have : (1 : Int) ≤ (2 ^ 63 - 1) / n := by
      rw [Int.le_ediv_iff_mul_le (by omega)]; omega
    first | omega | (simp; omega)
  · simp only [Builtin.Str.tooLong, sizeLine]
    exact decide_eq_false (by simp; omega)
theorem c_dirname (w : World) (p : Str) (hz : p.length ≤ 1000000) : Contract w 2 (.ref 122) [.str p] (.str (pyDirname p)) := by
  obtain ⟨fd, X, hb⟩ := fn_dirname w
  have hz1 : p.length ≤ sizeLine := by simp only [sizeLine]; omega
  have hh : (pyHead p).length ≤ p.length := Txt.slice_le _ _ _
  have hz2 : (pyHead p).length ≤ sizeLine := by omega
  refine contract_def (k := 1) X [Str.ofString "p"] hb rfl (by decide) (by rfl) ⟨rfl, rfl, rfl⟩ ?_
  refine exs_cons (ex_assign (ev_call nm_fspath ck_fspath (evs_cons (ev_name (by rfl)) evs_nil) (c_fspath w p).op) (asg_local (by rfl))) ?_
  refine exs_cons (ex_assign (ev_call nm__get_sep ck__get_sep (evs_cons (ev_name (by rfl)) evs_nil) (c_get_sep w p).op) (asg_local (by rfl))) ?_
  refine exs_cons (ex_assign (ev_binop (ev_method (ev_name (by rfl)) meth_rfind (callOk_builtin _) (evs_cons (ev_name (by rfl)) evs_nil) op_rfind) ev_int op_add_int) (asg_local (by rfl))) ?_
  refine exs_cons (ex_assign (ev_slice_str (ev_name (by rfl)) evp_none (evp_some (ev_name (by rfl))) hz1) (asg_local (by rfl))) ?_
  show Exs _ _ _ (put _ _ (.fz (.str (pyHead p)))) _ _ _
  have ok : MulOk "/" (pyHead p).length := mulOk_sep _ (by omega)
  by_cases e0 : pyHead p = ""
  · have : pyDirname p = pyHead p := by unfold pyDirname; rw [if_neg (by simp [e0])]
    rw [this]
    refine exs_cons (ex_if (b := false) (tr_and (b := false) ((tr_plain (ev_name (by rfl)) (truth_str hz2)).to (by rw [e0]; rfl)) (fun h => by cases h) fun _ => ⟨rfl, rfl⟩) (fun h => by cases h) fun _ => exs_keep) ?_
    exact exs_stop (ex_return (ev_name (by rfl))) (by intro h; cases h)
  have e0' : ((pyHead p).length : Int) ≠ 0 := by
    intro h; exact e0 (str_len0.mp (by omega))
  by_cases e1 : pyHead p = Txt.mul "/" (pyHead p).length
  · have : pyDirname p = pyHead p := by unfold pyDirname; rw [if_neg (fun h => h.2 e1)]
    rw [this]
    refine exs_cons (ex_if (b := false) (tr_and (b := true) ((tr_plain (ev_name (by rfl)) (truth_str hz2)).to (by simpa using e0')) (fun _ => tr_and (b := false) ((tr_compare (ev_name (by rfl)) (ev_binop (ev_name (by rfl)) (ev_call nm_len (callOk_builtin _) (evs_cons (ev_name (by rfl)) evs_nil) (op_len_str hz2)) (op_mul_str ok)) op_ne_str).to (by simpa using e1)) (fun h => by cases h) fun _ => ⟨rfl, rfl⟩) (fun h => by cases h)) (fun h => by cases h) fun _ => exs_keep) ?_
    exact exs_stop (ex_return (ev_name (by rfl))) (by intro h; cases h)
  · have : pyDirname p = Txt.rstripChars (pyHead p) "/" := by unfold pyDirname; rw [if_pos ⟨e0, e1⟩]
    rw [this]
    refine exs_cons (ex_if (b := true) (tr_and (b := true) ((tr_plain (ev_name (by rfl)) (truth_str hz2)).to (by simpa using e0')) (fun _ => tr_and (b := true) ((tr_compare (ev_name (by rfl)) (ev_binop (ev_name (by rfl)) (ev_call nm_len (callOk_builtin _) (evs_cons (ev_name (by rfl)) evs_nil) (op_len_str hz2)) (op_mul_str ok)) op_ne_str).to (by simpa using e1)) (fun _ => tr_and_nil) (fun h => by cases h)) (fun h => by cases h))
      (fun _ => exs_cons (ex_assign (ev_method (ev_name (by rfl)) meth_rstrip (callOk_builtin _) (evs_cons (ev_name (by rfl)) evs_nil) (op_rstrip hz2)) (asg_local (by rfl))) exs_keep) (fun h => by cases h)) ?_
    exact exs_stop (ex_return (ev_name (by rfl))) (by intro h; cases h)
end Mine
end

noncomputable section
open PySem PySem.W PyProof.Rows PySem.SeqAt
namespace Mine
section
variable {w : World} {k : Nat} {A : Around} {sc : Scope} {F : FrS} {h₀ R R' R'' h h' : Heap} {σ σ' σ₁ σ₂ σ₃ : St} {s s' s'' : Shared} {fn : Prop} {wr : List Addr}
/-- a part of a state -/
noncomputable def Sub : St → St → Prop
  | [], _ => True
  | (x, sl) :: r, σ => σ.lookup x = some sl ∧ Sub r σ
theorem Sub.lk : ∀ {σ' σ : St}, Sub σ' σ → ∀ x sl, σ'.lookup x = some sl → σ.lookup x = some sl
  | [], _, _, x, sl, e => by cases e
  | (y, sy) :: r, σ, h, x, sl, e => by
    rw [List.lookup_cons] at e
    cases hb : x == y with
    | true => rw [hb] at e; cases e; rw [beq_iff_eq] at hb; subst hb; exact h.1
    | false => rw [hb] at e; exact Sub.lk h.2 x sl e
theorem exs_to (h : Sub σ' σ) : Exs w k sc σ [] .next σ' := fun A F h₀ R s hf lh rm S => wpAny_execs_nil ⟨R, .refl .., S.weaken h.lk, .next⟩
theorem exs_sub {sts : List Stmt} {f : Fl} (h : Sub σ₁ σ) (hs : Exs w k sc σ₁ sts f σ') : Exs w k sc σ sts f σ' := fun A F h₀ R s hf lh rm S => hs A F h₀ R s hf lh rm (S.weaken h.lk)
theorem iterAt_tup {target : PySem.Expr} {I a : Addr} {l : List D} {vs : List Value} (hh : A.handled = none) (ne : a ≠ I) (hl : R.IsTuple a vs.toArray) (r : RepL w R l vs) :
    IterAt w A target R I [I] [] l.length (fun i => l.getD i .none) (fun i h => h.IsTupleIter I a i ∧ h.IsTuple a vs.toArray) (fun i v h => (h.IsTupleIter I a (i + 1) ∧ h.IsTuple a vs.toArray) ∧ vs.toArray[i]? = some v) := by
  have W := Walks.tuple (prog := PG) (w := w) hh I a ne vs.toArray
  rw [List.size_toArray, r.length] at W
  refine IterAt.of_walks W (fun b hb => ?_) (fun i v e => getD_of r e) (fun i v s Q E st h => letGo_tupleiter st.1 h) (fun i h st => let ⟨o, ho, _⟩ := st.1; ⟨o, ho⟩)
  rcases List.mem_cons.mp hb with e | hb
  · exact .inl e
  · rw [List.mem_singleton] at hb; subst hb
    obtain ⟨o, ho, _⟩ := hl; exact .inr (.inl ⟨o, ho⟩)
/-- over a frozen tuple -/
theorem iters_tup {target iter : PySem.Expr} {l : List D} (h : Ev w k sc σ iter (.tup l) σ') : Iters w k sc σ target iter l.length (fun i => l.getD i .none) σ' := fun A F h₀ R s rm S =>
  wp_then (h A F h₀ R s rm S) fun v R₁ s₁ st₁ S₁ q₁ => by
    replace q₁ := q₁.tup_inv
    obtain ⟨a, vs, rfl, hl, r⟩ := q₁
    have n := get_size s₁.heap
    have hl' := isTuple_mono S₁.ext hl
    have ne : a ≠ s₁.heap.objs.size := fun e => by obtain ⟨o, ho, _⟩ := hl'; exact nomatch (e ▸ n).symm.trans ho
    exact wpAny_pyIter_tuple hl' (itPost_new (t := s₁.toks) S₁ st₁ (Le.push _ _) n (iterAt_tup rm.h ne hl r) ⟨⟨_, Heap.get?_push_size _ rfl, rfl, rfl⟩, isTuple_mono (Le.push _ _) hl'⟩)
end

/-- what join gives for two parts -/
noncomputable def pyJoin (a b : Str) : Str := if Txt.startswith b "/" = true ∨ a = "" then b else if Txt.endswith a "/" = true then a ++ b else a ++ (Str.ofString "/" ++ b)
theorem str_add_length (a b : Str) : (a ++ b).length = a.length + b.length := by
  show (a.cps ++ b.cps).size = _
  rw [Array.size_append]; rfl

theorem fn_join (w : World) : ∃ fd, FnAt w 115 14 fd ∧ ∀ u v : Value, bindArgs fd ⟨[u, v], []⟩ = (do let t ← newTuple [v]; pure [(Str.ofString "a", u), (Str.ofString "p", t)]) := by
  refine ⟨_, ⟨⟨_, _, _, rfl⟩, rfl, rfl, rfl, rfl, rfl, by kernel_rfl, by kernel_rfl⟩, ?_⟩
  intro u v
  rfl
theorem c_join (w : World) (a b : Str) (hz : a.length + b.length ≤ 1000000) : Contract w 3 (.ref 115) [.str a, .str b] (.str (pyJoin a b)) := by
  obtain ⟨fd, X, hb⟩ := fn_join w
  have hz1 : a.length ≤ sizeLine := by simp only [sizeLine]; omega
  refine contract_binds (k := 2) X [Str.ofString "a", Str.ofString "p"] [.str a, .tup [.str b]] (fun {A R s vs Q} c rep hq => ?_) rfl (by decide) (by rfl) ⟨rfl, rfl, rfl⟩ ?_
  · replace rep := rep.cons_inv
    obtain ⟨_, _, rfl, r1, rep⟩ := rep
    replace rep := rep.cons_inv
    obtain ⟨_, _, rfl, r2, rep⟩ := rep
    cases rep
    rw [hb]
    refine wpAny_bind (wpAny_newTuple (wpAny_pure ?_))
    have n := get_size s.heap
    exact hq [_, _] _ _ (Mv.add (t := s.toks) (d := s.drawn) c (Le.push s.heap _) n) (.cons (r1.mono (addR_le (c.ext.trans (Le.push s.heap _)) _)) (.cons (.tup ⟨_, addR_self (c.ext.trans (Le.push s.heap _)) (Heap.get?_push_size _ rfl), rfl, 0, rfl⟩ (.cons (r2.mono (addR_le (c.ext.trans (Le.push s.heap _)) _)) .nil)) .nil))
  refine exs_cons (ex_assign (ev_call nm_fspath ck_fspath (evs_cons (ev_name (by rfl)) evs_nil) ((c_fspath w a).op.le (by decide))) (asg_local (by rfl))) ?_
  refine exs_cons (ex_assign (ev_call nm__get_sep ck__get_sep (evs_cons (ev_name (by rfl)) evs_nil) ((c_get_sep w a).op.le (by decide))) (asg_local (by rfl))) ?_
  refine exs_cons (ex_assign (ev_name (by rfl)) (asg_local (by rfl))) ?_
  refine exs_cons (ex_try (orelse := []) (σ' := [("path", .fz (.str (pyJoin a b)))]) ?_) (exs_stop (ex_return (ev_name (by rfl))) (by intro h; cases h))
  refine exs_cons (ex_for (n := 1) (fun i => if i = 0 then [("sep", .fz (.str "/")), ("path", .fz (.str a))] else [("path", .fz (.str (pyJoin a b)))]) (iters_tup (l := [.str b]) (ev_name (by rfl))) (Sub.lk ⟨by rfl, by rfl, trivial⟩) fun i hi => ?_) (exs_to ⟨by rfl, trivial⟩)
  have : i = 0 := by omega
  subst this
  refine ⟨_, .next, asg_local (by rfl), .inl rfl, ?_⟩
  refine exs_cons (ex_assign (ev_call nm_fspath ck_fspath (evs_cons (ev_name (by rfl)) evs_nil) ((c_fspath w b).op.le (by decide))) (asg_local (by rfl))) ?_
  cases hs : Txt.startswith b "/" with
  | true =>
    have e : pyJoin a b = b := by unfold pyJoin; rw [if_pos (.inl hs)]
    rw [e]
    refine exs_cons (ex_if (b := true) (tr_or (b := true) ((tr_plain (ev_method (ev_name (by rfl)) meth_startswith (callOk_builtin _) (evs_cons (ev_name (by rfl)) evs_nil) op_startswith) truth_bool).to hs) (fun h => by cases h) fun _ => ⟨rfl, rfl⟩) (fun _ => exs_cons (ex_assign (ev_name (by rfl)) (asg_local (by rfl))) exs_keep) fun h => by cases h) (exs_to ⟨by rfl, trivial⟩)
  | false =>
    by_cases ha : a = ""
    · have e : pyJoin a b = b := by unfold pyJoin; rw [if_pos (.inr ha)]
      rw [e]
      refine exs_cons (ex_if (b := true) (tr_or (b := false) ((tr_plain (ev_method (ev_name (by rfl)) meth_startswith (callOk_builtin _) (evs_cons (ev_name (by rfl)) evs_nil) op_startswith) truth_bool).to hs) (fun _ => tr_or (b := true) ((tr_not (tr_plain (ev_name (by rfl)) (truth_str hz1))).to (by rw [ha]; rfl)) (fun h => by cases h) fun _ => ⟨rfl, rfl⟩) fun h => by cases h) (fun _ => exs_cons (ex_assign (ev_name (by rfl)) (asg_local (by rfl))) exs_keep) fun h => by cases h) (exs_to ⟨by rfl, trivial⟩)
    · have ha' : (a.length : Int) ≠ 0 := fun h => ha (str_len0.mp (by omega))
      refine exs_cons (ex_if (b := false) (tr_or (b := false) ((tr_plain (ev_method (ev_name (by rfl)) meth_startswith (callOk_builtin _) (evs_cons (ev_name (by rfl)) evs_nil) op_startswith) truth_bool).to hs) (fun _ => tr_or (b := false) ((tr_not (tr_plain (ev_name (by rfl)) (truth_str hz1))).to (by simpa using ha')) (fun _ => tr_or_nil) fun h => by cases h) fun h => by cases h) (fun h => by cases h) fun _ => ?_) exs_keep
      cases he : Txt.endswith a "/" with
      | true =>
        have e : pyJoin a b = a ++ b := by unfold pyJoin; rw [if_neg (by simp [hs, ha]), if_pos he]
        rw [e]
        exact exs_cons (ex_if (b := true) ((tr_plain (ev_method (ev_name (by rfl)) meth_endswith (callOk_builtin _) (evs_cons (ev_name (by rfl)) evs_nil) op_endswith) truth_bool).to he) (fun _ => exs_cons (ex_aug (by rfl) (ev_name (by rfl)) (by rfl) (op_iadd_str (by simp only [sizeLine]; omega)) (by rfl)) exs_keep) fun h => by cases h) (exs_to ⟨by rfl, trivial⟩)
      | false =>
        have e : pyJoin a b = a ++ (Str.ofString "/" ++ b) := by unfold pyJoin; rw [if_neg (by simp [hs, ha]), if_neg (by simp [he])]
        rw [e]
        have hl : (Str.ofString "/" ++ b).length = 1 + b.length := str_add_length _ _
        have h1 : (Str.ofString "/").length = 1 := rfl
        exact exs_cons (ex_if (b := false) ((tr_plain (ev_method (ev_name (by rfl)) meth_endswith (callOk_builtin _) (evs_cons (ev_name (by rfl)) evs_nil) op_endswith) truth_bool).to he) (fun h => by cases h) fun _ => exs_cons (ex_aug (by rfl) (ev_binop (ev_name (by rfl)) (ev_name (by rfl)) (op_add_str (by simp only [sizeLine]; omega))) (by rfl) (op_iadd_str (by simp only [sizeLine]; omega)) (by rfl)) exs_keep) (exs_to ⟨by rfl, trivial⟩)
end Mine
end

noncomputable section
open PySem PySem.W PyProof.Rows PySem.SeqAt
namespace Mine
section
variable {w : World} {k : Nat} {A : Around} {sc : Scope} {F : FrS} {h₀ R R' R'' h h' : Heap} {σ σ' σ₁ σ₂ σ₃ : St} {s s' s'' : Shared} {fn : Prop} {wr : List Addr}
theorem Ev.weaken {e : PySem.Expr} {d : D} (h : Ev w k sc σ e d σ₁) (q : ∀ x sl, σ'.lookup x = some sl → σ₁.lookup x = some sl) : Ev w k sc σ e d σ' := fun A F h₀ R s rm S =>
  wpAny_mono (h A F h₀ R s rm S) (fun _ _ ⟨R', st, S', r⟩ => ⟨R', st, S'.weaken q, r⟩) fun _ _ e => e
/-- one loop of a comprehension -/
theorem comp_one {elt iter : PySem.Expr} {t : Str} {tp : Pos} {ifs : List PySem.Expr} {scope : Scope} {pos : Pos} {n : Nat} {ds : Nat → D} (b : Nat → Bool) (g : Nat → D) (ht0 : σ.lookup t = none) (hn : n ≤ sizeLine)
    (turn : ∀ i, i < n → ∃ σu, Tests w k sc (put σ t (.fz (ds i))) ifs (b i) σu ∧ (b i = true → ∃ σv, Ev w k sc σu elt (g i) σv ∧ ∀ x sl, σ.lookup x = some sl → σv.lookup x = some sl) ∧ (b i = false → ∀ x sl, σ.lookup x = some sl → σu.lookup x = some sl))
    (hx : sc.names.lookup t = some .local) (hk : sc.kind = .function := by rfl) : CompRun w k sc σ (.ListComp elt [⟨.Name t tp, iter, ifs, 0⟩] scope pos) (.Name t tp) n ds (((List.range n).filter b).map g) := by
  refine compRun1 (fun _ => σ) (fun i => ((List.range i).filter b).map g) rfl fun i hi => ?_
  obtain ⟨σu, h1, h2, h3⟩ := turn i hi
  refine ⟨put σ t (.fz (ds i)), b i, σu, asg_local hx hk, h1, fun e => ?_, fun e => ⟨?_, h3 e⟩⟩
  · obtain ⟨σv, h4, h5⟩ := h2 e
    refine ⟨g i, h4.weaken h5, ?_, ?_⟩
    · rw [List.range_succ, List.filter_append, List.map_append]; simp [e]
    · rw [List.length_map]
      exact Nat.le_trans (List.length_filter_le _ _) (by rw [List.length_range]; omega)
  · show ((List.range (i + 1)).filter b).map g = _
    rw [List.range_succ, List.filter_append, List.map_append]; simp [e]
theorem comp_map {elt iter : PySem.Expr} {t : Str} {tp : Pos} {scope : Scope} {pos : Pos} {n : Nat} {ds : Nat → D} (g : Nat → D) (ht0 : σ.lookup t = none) (hn : n ≤ sizeLine)
    (turn : ∀ i, i < n → ∃ σv, Ev w k sc (put σ t (.fz (ds i))) elt (g i) σv ∧ ∀ x sl, σ.lookup x = some sl → σv.lookup x = some sl)
    (hx : sc.names.lookup t = some .local) (hk : sc.kind = .function := by rfl) : CompRun w k sc σ (.ListComp elt [⟨.Name t tp, iter, [], 0⟩] scope pos) (.Name t tp) n ds ((List.range n).map g) := by
  have h : CompRun w k sc σ (.ListComp elt [⟨.Name t tp, iter, [], 0⟩] scope pos) (.Name t tp) n ds (((List.range n).filter fun _ => true).map g) := comp_one (fun _ => true) g ht0 hn (fun i hi => ⟨_, tests_nil, fun _ => turn i hi, fun e => by cases e⟩) hx hk
  rwa [List.filter_eq_self.mpr (fun _ _ => rfl)] at h
theorem comp_one' {elt iter : PySem.Expr} {t : Str} {tp : Pos} {ifs : List PySem.Expr} {scope : Scope} {pos : Pos} {n : Nat} {ds : Nat → D} {out : List D} (b : Nat → Bool) (g : Nat → D) (ho : ((List.range n).filter b).map g = out) (ht0 : σ.lookup t = none) (hn : n ≤ sizeLine)
    (hx : sc.names.lookup t = some .local)
    (turn : ∀ i, i < n → ∃ σu, Tests w k sc (put σ t (.fz (ds i))) ifs (b i) σu ∧ (b i = true → ∃ σv, Ev w k sc σu elt (g i) σv ∧ ∀ x sl, σ.lookup x = some sl → σv.lookup x = some sl) ∧ (b i = false → ∀ x sl, σ.lookup x = some sl → σu.lookup x = some sl))
    (hk : sc.kind = .function := by rfl) : CompRun w k sc σ (.ListComp elt [⟨.Name t tp, iter, ifs, 0⟩] scope pos) (.Name t tp) n ds out := ho ▸ comp_one b g ht0 hn turn hx hk
theorem comp_map' {elt iter : PySem.Expr} {t : Str} {tp : Pos} {scope : Scope} {pos : Pos} {n : Nat} {ds : Nat → D} {out : List D} (g : Nat → D) (ho : (List.range n).map g = out) (ht0 : σ.lookup t = none) (hn : n ≤ sizeLine) (hx : sc.names.lookup t = some .local)
    (turn : ∀ i, i < n → ∃ σv, Ev w k sc (put σ t (.fz (ds i))) elt (g i) σv ∧ ∀ x sl, σ.lookup x = some sl → σv.lookup x = some sl)
    (hk : sc.kind = .function := by rfl) : CompRun w k sc σ (.ListComp elt [⟨.Name t tp, iter, [], 0⟩] scope pos) (.Name t tp) n ds out := ho ▸ comp_map g ht0 hn turn hx hk
theorem put_ext {x : Str} {sl : Slot} (h : σ.lookup x = none) : ∀ y s, σ.lookup y = some s → (put σ x sl).lookup y = some s := fun y s e => by
  rw [lookup_put]
  by_cases ey : y = x
  · subst ey; rw [h] at e; cases e
  · rw [if_neg ey]; exact e
theorem map_range_getD {α β : Type} (f : α → β) (d : α) (l : List α) : (List.range l.length).map (fun i => f (l.getD i d)) = l.map f := by
  refine List.ext_getElem (by simp) fun i h1 h2 => ?_
  simp only [List.length_map, List.length_range] at h1
  simp [List.getD, h1]
theorem filter_range_getD {α β : Type} (b : α → Bool) (f : α → β) (d : α) (l : List α) : ((List.range l.length).filter fun i => b (l.getD i d)).map (fun i => f (l.getD i d)) = (l.filter b).map f := by
  have : l = (List.range l.length).map fun i => l.getD i d := by
    have := map_range_getD id d l
    simpa using this.symm
  conv => rhs; rw [this]
  rw [List.filter_map, List.map_map]
  rfl

/-! a written dict, key by key -/
noncomputable def pairsE : List (Option PySem.Expr) → List PySem.Expr → List (PySem.Expr × PySem.Expr)
  | some a :: ks, b :: vs => (a, b) :: pairsE ks vs
  | _, _ => []
structure EvD (w : World) (k : Nat) (sc : Scope) (σ : St) (keys : List (Option PySem.Expr)) (values : List PySem.Expr) (kds : List (Str × D)) (σ' : St) : Prop where
  shape : ∀ pos env, (evalEachOpt keys env).zip ((evalEach values env).map fun v => do let x ← v; standAt pos; pure x) = ((pairsE keys values).map fun p => (eval p.1 env, (do let x ← eval p.2 env; standAt pos; pure x))).map fun p => (some p.1, p.2)
  len : (pairsE keys values).length = kds.length
  ev : EvPairs w k sc σ (pairsE keys values) kds σ'
theorem evD_nil : EvD w k sc σ [] [] [] σ := ⟨fun _ _ => rfl, rfl, evPairs_nil⟩
theorem evD_cons {a b : PySem.Expr} {keys : List (Option PySem.Expr)} {values : List PySem.Expr} {x : Str} {d : D} {kds : List (Str × D)} (ha : Ev w k sc σ a (.str x) σ₁) (hb : Ev w k sc σ₁ b d σ₂) (h : EvD w k sc σ₂ keys values kds σ') : EvD w k sc σ (some a :: keys) (b :: values) ((x, d) :: kds) σ' where
  shape := fun pos env => by
    show (some (eval a env), _) :: _ = _
    exact congrArg _ (h.shape pos env)
  len := congrArg (· + 1) h.len
  ev := evPairs_cons ha hb h.ev
theorem evN_dictE {keys : List (Option PySem.Expr)} {values : List PySem.Expr} {pos : Pos} {kds : List (Str × D)} (h : EvD w k sc σ keys values kds σ') (hn : (kds.map (·.1)).Nodup) (h0 : kds ≠ [] := by simp) (hl : kds.length ≤ 15 := by decide) : EvN w k sc σ (.Dict keys values pos) (.dict (kds.map (·.1)) (kds.map (·.2))) σ' :=
  evN_dict h.ev hn (fun e => h0 (List.eq_nil_of_length_eq_zero (by rw [← h.len, e]; rfl))) (by rw [h.len]; exact hl) (h.shape pos)

theorem hf_of {scope sc : Scope} (h : (scope.names.all fun p => !(p.2 == .free) || sc.names.lookup p.1 == some .cell) = true) : ∀ x, (x, NameKind.free) ∈ scope.names → sc.names.lookup x = some .cell := fun x hx => by
  have := List.all_eq_true.mp h _ hx
  simpa using this
theorem hn_of {scope : Scope} (h : (scope.names.all fun p => !(p.2 == .local) || scope.names.lookup p.1 == some .local) = true) : ∀ x ∈ scope.names, x.2 = .local → scope.names.lookup x.1 = some .local := fun x hx e => by
  have := List.all_eq_true.mp h _ hx
  rw [e] at this
  simpa using this
theorem evN_comp' {elt target iter : PySem.Expr} {ifs : List PySem.Expr} {gs : List Comprehension} {scope : Scope} {pos : Pos} {n : Nat} {ds : Nat → D} {out : List D} (σi : St)
    (hi : ItersR w k sc σ target iter n ds σ₁) (hin : Inner scope sc σ₁ σi) (hrun : CompRun w k (relabelS scope sc) σi (.ListComp elt (⟨target, iter, ifs, 0⟩ :: gs) scope pos) target n ds out)
    (hf : (scope.names.all fun p => !(p.2 == .free) || sc.names.lookup p.1 == some .cell) = true := by rfl) (hnames : (scope.names.all fun p => !(p.2 == .local) || scope.names.lookup p.1 == some .local) = true := by rfl)
    (hkind : scope.kind = .function := by rfl) (hc : ∀ y ∈ scope.names, y.2 ≠ .cell := by decide)
    (hs : ∀ env x, foldedSetIterable iter env x = pure x := by intro _ _; rfl) : EvN w k sc σ (.ListComp elt (⟨target, iter, ifs, 0⟩ :: gs) scope pos) (.list out) σ₁ := evN_comp hi hin hrun hkind hc (hf_of hf) (hn_of hnames) hs
theorem ex_assign_comp' {x : Str} {p apos : Pos} {elt target iter : PySem.Expr} {ifs : List PySem.Expr} {gs : List Comprehension} {scope : Scope} {pos : Pos} {n : Nat} {ds : Nat → D} {out : List D} (σi : St)
    (hi : ItersR w k sc σ target iter n ds σ₁) (hin : Inner scope sc σ₁ σi) (hrun : CompRun w k (relabelS scope sc) σi (.ListComp elt (⟨target, iter, ifs, 0⟩ :: gs) scope pos) target n ds out) (hx : sc.names.lookup x = some .local)
    (hf : (scope.names.all fun p => !(p.2 == .free) || sc.names.lookup p.1 == some .cell) = true := by rfl) (hnames : (scope.names.all fun p => !(p.2 == .local) || scope.names.lookup p.1 == some .local) = true := by rfl)
    (hkind : scope.kind = .function := by rfl) (hc : ∀ y ∈ scope.names, y.2 ≠ .cell := by decide) (hk : sc.kind = .function := by rfl)
    (hs : ∀ env x, foldedSetIterable iter env x = pure x := by intro _ _; rfl)
    (hsw : ∀ F, swapsWith (.ListComp elt (⟨target, iter, ifs, 0⟩ :: gs) scope pos) (some (.Name x p)) apos.line (mkEnv sc F) = pure true := by intro _; rfl) :
    Ex w k sc σ (.Assign [.Name x p] (.ListComp elt (⟨target, iter, ifs, 0⟩ :: gs) scope pos) apos) .next (put σ₁ x (.own (.list out))) := ex_assign_comp hi hin hrun hx (hf_of hf) (hn_of hnames) hkind hc hk hs hsw
end
end Mine
end

noncomputable section
open PySem PySem.W PyProof.Rows PySem.SeqAt
namespace Mine
/-- the names that a comprehension takes from its frame -/
noncomputable def InnerL (scope sc : Scope) (σ : St) : St → Prop
  | [] => True
  | (x, sl) :: r => (∃ d, sl = .fz d) ∧ σ.lookup x = some sl ∧ (relabelS scope sc).names.lookup x = some .cell ∧ sc.names.lookup x = some .cell ∧ InnerL scope sc σ r
theorem InnerL.inner {scope sc : Scope} {σ : St} : ∀ {σi : St}, InnerL scope sc σ σi → Inner scope sc σ σi
  | [], _, x, sl, e => by cases e
  | (y, sy) :: r, h, x, sl, e => by
    rw [List.lookup_cons] at e
    cases hb : x == y with
    | true => rw [hb] at e; cases e; rw [beq_iff_eq] at hb; subst hb; exact ⟨h.1, h.2.1, h.2.2.1, h.2.2.2.1⟩
    | false => rw [hb] at e; exact InnerL.inner h.2.2.2.2 x sl e

noncomputable def form (i : Nat) : List (Str × Str) := match i with
  | 0 => [("&", "&amp;"), ("<", "&lt;"), (">", "&gt;"), ("\"", "&quot;"), ("\r", "&#13;"), ("\n", "&#10;"), ("\t", "&#09;")]
  | 1 => [("&", "&amp;"), ("<", "&lt;"), ("\"", "&quot;"), ("\r", "&#xD;"), ("\n", "&#xA;"), ("\t", "&#x9;")]
  | _ => [("&", "&amp;"), (">", "&gt;"), ("\"", "&quot;")]
noncomputable def fds (l : List (Str × Str)) : List (Str × D) := l.map fun p => (p.1, .str p.2)
noncomputable def sd (l : List (Str × Str)) : D := .dict ((fds l).map (·.1)) ((fds l).map (·.2))
noncomputable def signs (x : Str) : List Str := x.cps.toList.map fun c => ⟨#[c]⟩
noncomputable def told1 (i : Nat) (c : Str) : Str := ((form i).lookup c).getD c
/-- what _law_told gives -/
noncomputable def toldOf (x : Str) (i : Nat) : Str := Txt.join "" ((signs x).map (told1 i))
theorem dget_sd (c : Str) : ∀ l : List (Str × Str), dget ((fds l).map (·.1)) ((fds l).map (·.2)) c = (l.lookup c).map .str
  | [] => rfl
  | (y, z) :: l => by
    simp only [fds, List.map_cons, dget, List.lookup_cons]
    by_cases e : y = c
    · subst e; simp
    · have : (c == y) = false := by simpa using fun h : c = y => e h.symm
      rw [if_neg e, this]; exact dget_sd c l
section
theorem EvN.cast {w : World} {k : Nat} {sc : Scope} {σ σ' : St} {e : PySem.Expr} {d d' : D} (h : EvN w k sc σ e d σ') (q : d = d') : EvN w k sc σ e d' σ' := q ▸ h
theorem c_told (w : World) (x : Str) (i : Nat) (hi : i < 3) (hx : x.length ≤ 1000) (hj : JoinOk "" ((signs x).map (told1 i)) = true) : Contract w 1 (.ref 174) [.str x, .int i] (.str (toldOf x i)) := by
  obtain ⟨fd, X, hb⟩ := fn__law_told w
  refine contract_def (k := 0) X [Str.ofString "name", Str.ofString "kind"] hb rfl (by decide) (by rfl) ⟨rfl, rfl, rfl⟩ ?_
  have q0 : ((fds (form 0)).map (·.1)).Nodup := by decide +kernel
  have q1 : ((fds (form 1)).map (·.1)).Nodup := by decide +kernel
  have q2 : ((fds (form 2)).map (·.1)).Nodup := by decide +kernel
  refine exs_cons (σ₁ := put (bound [Str.ofString "name", Str.ofString "kind"] [D.str x, D.int (i : Int)]) "forms" (.fz (.list [sd (form 0), sd (form 1), sd (form 2)]))) ?a ?b
  case a =>
    with_reducible refine ex_assign (σ₁ := bound [Str.ofString "name", Str.ofString "kind"] [D.str x, D.int (i : Int)]) (d := .list [sd (form 0), sd (form 1), sd (form 2)]) ?e ?t ?h
    case h => intro _ _; rfl
    case e =>
      with_reducible refine ev_list (evs_cons (σ₁ := bound [Str.ofString "name", Str.ofString "kind"] [D.str x, D.int (i : Int)]) (ev_of_N ?x0) (evs_cons (σ₁ := bound [Str.ofString "name", Str.ofString "kind"] [D.str x, D.int (i : Int)]) (ev_of_N ?x1) (evs_cons (σ₁ := bound [Str.ofString "name", Str.ofString "kind"] [D.str x, D.int (i : Int)]) (ev_of_N ?x2) ?en ?k2) ?k1) ?k0)
      case x0 =>
        with_reducible refine EvN.cast (evN_dictE (kds := [(Str.ofString "&", .str (Str.ofString "&amp;")), (Str.ofString "<", .str (Str.ofString "&lt;")), (Str.ofString ">", .str (Str.ofString "&gt;")), (Str.ofString "\"", .str (Str.ofString "&quot;")), (Str.ofString "\r", .str (Str.ofString "&#13;")), (Str.ofString "\n", .str (Str.ofString "&#10;")), (Str.ofString "\t", .str (Str.ofString "&#09;"))]) ?v ?n ?z ?l) ?q
        case v => with_reducible refine evD_cons ev_str ev_str (evD_cons ev_str ev_str (evD_cons ev_str ev_str (evD_cons ev_str ev_str (evD_cons ev_str ev_str (evD_cons ev_str ev_str (evD_cons ev_str ev_str (evD_nil)))))))
        case n => exact q0
        case z => exact List.cons_ne_nil _ _
        case l => decide
        case q => rfl
      case x1 =>
        with_reducible refine EvN.cast (evN_dictE (kds := [(Str.ofString "&", .str (Str.ofString "&amp;")), (Str.ofString "<", .str (Str.ofString "&lt;")), (Str.ofString "\"", .str (Str.ofString "&quot;")), (Str.ofString "\r", .str (Str.ofString "&#xD;")), (Str.ofString "\n", .str (Str.ofString "&#xA;")), (Str.ofString "\t", .str (Str.ofString "&#x9;"))]) ?v ?n ?z ?l) ?q
        case v => with_reducible refine evD_cons ev_str ev_str (evD_cons ev_str ev_str (evD_cons ev_str ev_str (evD_cons ev_str ev_str (evD_cons ev_str ev_str (evD_cons ev_str ev_str (evD_nil))))))
        case n => exact q1
        case z => exact List.cons_ne_nil _ _
        case l => decide
        case q => rfl
      case x2 =>
        with_reducible refine EvN.cast (evN_dictE (kds := [(Str.ofString "&", .str (Str.ofString "&amp;")), (Str.ofString ">", .str (Str.ofString "&gt;")), (Str.ofString "\"", .str (Str.ofString "&quot;"))]) ?v ?n ?z ?l) ?q
        case v => with_reducible refine evD_cons ev_str ev_str (evD_cons ev_str ev_str (evD_cons ev_str ev_str (evD_nil)))
        case n => exact q2
        case z => exact List.cons_ne_nil _ _
        case l => decide
        case q => rfl
      case en => exact evs_nil
      case k0 => intro _; rfl
      case k1 => intro _; rfl
      case k2 => intro _; rfl
    case t => exact asg_cell (by rfl)
  case b =>
    have hitem : OpItem w 0 (.list [sd (form 0), sd (form 1), sd (form 2)]) (.int i) (sd (form i)) := item_list (by omega) (by
      rw [show (i : Int).toNat = i from by omega]
      rcases lt3 hi with rfl | rfl | rfl <;> rfl) (by simp [sizeLine])
    with_reducible refine exs_stop (ex_return (σ' := put (bound [Str.ofString "name", Str.ofString "kind"] [D.str x, D.int (i : Int)]) "forms" (.fz (.list [sd (form 0), sd (form 1), sd (form 2)]))) (ev_method (σ₁ := put (bound [Str.ofString "name", Str.ofString "kind"] [D.str x, D.int (i : Int)]) "forms" (.fz (.list [sd (form 0), sd (form 1), sd (form 2)]))) (σ' := put (bound [Str.ofString "name", Str.ofString "kind"] [D.str x, D.int (i : Int)]) "forms" (.fz (.list [sd (form 0), sd (form 1), sd (form 2)]))) (ds := [.list ((signs x).map fun c => .str (told1 i c))]) ev_str meth_join (callOk_builtin _) ?ha ?ho ?hp ?he)) ?hf
    case hf => intro h; cases h
    case hp => intro _ _; rfl
    case he => intro _ _; exact ⟨_, rfl⟩
    case ho =>
      have := op_join (w := w) (k := 0) hj
      rw [List.map_map] at this
      exact this
    case ha =>
      with_reducible refine evs_cons (σ₁ := put (bound [Str.ofString "name", Str.ofString "kind"] [D.str x, D.int (i : Int)]) "forms" (.fz (.list [sd (form 0), sd (form 1), sd (form 2)]))) (ev_of_N ?c) ?en ?k0
      case en => exact evs_nil
      case k0 => intro _; rfl
      case c =>
          refine evN_comp' (out := (signs x).map fun c => .str (told1 i c)) [("forms", .fz (.list [sd (form 0), sd (form 1), sd (form 2)])), ("kind", .fz (.int i))] (iters_str (ev_name (by rfl))).r (InnerL.inner ⟨⟨_, rfl⟩, by rfl, by rfl, by rfl, ⟨_, rfl⟩, by rfl, by rfl, by rfl, trivial⟩) ?_
          refine comp_map' (fun j => .str (told1 i ⟨#[x.cps.getD j 0]⟩)) ?_ (by rfl) (by simp only [sizeLine]; have : x.cps.size = x.length := rfl; omega) (by rfl) fun j hj => ?_
          · have := map_range_getD (fun c => D.str (told1 i ⟨#[c]⟩)) 0 x.cps.toList
            unfold signs
            rw [List.map_map]
            show _ = List.map (fun c => D.str (told1 i ⟨#[c]⟩)) _
            simpa using this
          · refine ⟨_, Ev.to (ev_method (ev_item (ev_name (by rfl)) (ev_name (by rfl)) hitem) meth_dict_get (callOk_builtin _) (evs_cons (ev_name (by rfl)) (evs_cons (ev_name (by rfl)) evs_nil)) op_dict_get) ?_, ?_⟩
            · rw [dget_sd]
              unfold told1
              cases (form i).lookup ⟨#[x.cps.getD j 0]⟩ <;> rfl
            · exact put_ext (by rfl)
end
end Mine
end

noncomputable section
open PySem PySem.W PyProof.Rows PySem.SeqAt
namespace Mine
section
variable {w : World} {k : Nat} {A : Around} {sc : Scope} {F : FrS} {h₀ R R' R'' h h' : Heap} {σ σ' σ₁ σ₂ σ₃ : St} {s s' s'' : Shared} {fn : Prop} {wr : List Addr}
theorem pick_upto {vs : List Value} {y : Int} (h0 : 0 ≤ y) : (slicePick vs.toArray none (some y) none).toList = vs.take y.toNat := by
  have ey : y = (y.toNat : Int) := by omega
  rw [ey, slicePick_upto' vs.toArray y.toNat]
  simp [← ey]
theorem pick_from {vs : List Value} {y : Int} (h0 : 0 ≤ y) : (slicePick vs.toArray (some y) none none).toList = vs.drop y.toNat := by
  have ey : y = (y.toNat : Int) := by omega
  rw [ey, slicePick_from' vs.toArray y.toNat]
  simp [← ey]
theorem ev_take {value : PySem.Expr} {hi : PySem.Expr} {p pos : Pos} {ds : List D} {y : Int} {n : Nat} (hv : Ev w k sc σ value (.list ds) σ₁) (hu : Ev w k sc σ₁ hi (.int y) σ₃) (hn : y = n) (hz : ds.length ≤ sizeLine)
    (ht : ∀ o r, letTemporaryGo value o r = pure () := by intro _ _; rfl) : Ev w k sc σ (.Subscript value (.Slice none (some hi) none p) pos) (.list (ds.take n)) σ₃ :=
  evN_slice_list hv evp_none (evp_some hu) hz (fun r => by subst hn; rw [pick_upto (by omega)]; exact r.take _) ht
theorem ev_drop {value : PySem.Expr} {lo : PySem.Expr} {p pos : Pos} {ds : List D} {y : Int} {n : Nat} (hv : Ev w k sc σ value (.list ds) σ₁) (hu : Ev w k sc σ₁ lo (.int y) σ₃) (hn : y = n) (hz : ds.length ≤ sizeLine)
    (ht : ∀ o r, letTemporaryGo value o r = pure () := by intro _ _; rfl) : Ev w k sc σ (.Subscript value (.Slice (some lo) none none p) pos) (.list (ds.drop n)) σ₃ :=
  evN_slice_list hv (evp_some hu) evp_none hz (fun r => by subst hn; rw [pick_from (by omega)]; exact r.drop _) ht

theorem ex_for' {target iter : PySem.Expr} {body : List Stmt} {pos : Pos} {n : Nat} {ds : Nat → D} (σs : Nat → St) {σe : St} (hi : Iters w k sc σ target iter n ds σ₁) (h0 : Sub (σs 0) σ₁) (he : σs n = σe)
    (turn : ∀ i, i < n → ∃ σt fl, Asg w k sc True (σs i) target (ds i) σt ∧ (fl = .next ∨ fl = .cont) ∧ Exs w k sc σt body fl (σs (i + 1)))
    (hs : ∀ env x, foldedSetIterable iter env x = pure x := by intro _ _; rfl) : Ex w k sc σ (.For target iter body [] pos) .next σe := he ▸ ex_for σs hi h0.lk turn hs

theorem op_notIn_iff (t : Ty) {x : t.el} {xs : List t.el} {b : Bool} (h : b = true ↔ ¬ x ∈ xs) (hd : t.depth ≤ 7 := by decide) : Op2 w k (compareOp .NotIn) (t.enc x) (.list (xs.map t.enc)) (.bool b) := by
  have := op_notIn_ty (w := w) (k := k) t (x := x) (xs := xs) hd
  rwa [show (!decide (x ∈ xs)) = b from by rw [Bool.eq_iff_iff]; simp [h]] at this
theorem op_in_iff (t : Ty) {x : t.el} {xs : List t.el} {b : Bool} (h : b = true ↔ x ∈ xs) (hd : t.depth ≤ 7 := by decide) : Op2 w k (compareOp .In) (t.enc x) (.list (xs.map t.enc)) (.bool b) := by
  have := op_in_ty (w := w) (k := k) t (x := x) (xs := xs) hd
  rwa [show decide (x ∈ xs) = b from by rw [Bool.eq_iff_iff]; simp [h]] at this
theorem op_eq_iff (t : Ty) {x y : List t.el} {b : Bool} (h : b = true ↔ x = y) (hd : t.depth ≤ 6 := by decide) : Op2 w k (compareOp .Eq) (.list (x.map t.enc)) (.list (y.map t.enc)) (.bool b) := by
  have := op_eq_ty (w := w) (k := k) t (x := x) (y := y) hd
  rwa [show decide (x = y) = b from by rw [Bool.eq_iff_iff]; simp [h]] at this
end
end Mine
end

noncomputable section
open PySem PySem.W PyProof.Rows PySem.SeqAt
namespace Mine
/-! what _law_drawn draws -/
noncomputable abbrev TRow : Ty := .list .int
noncomputable abbrev TTree : Ty := .list TRow
noncomputable def cellsAt (ns : List Int) : Nat → List Int
  | 0 => [3717, 31, 49, 76]
  | i + 1 => (cellsAt ns i).set (i % 4) ((cellsAt ns i).getD (i % 4) 0 + (ns.getD i 0).fmod 10000000)
noncomputable def namePool : List Str := ["\t", "\n", "\r", "\"", "#", "&", "'", "<", "=", ">", "a", "&lt;"]
structure NSt where
  rest : Int
  pool : List Str
  names : List Str
noncomputable def nameSt (r : Int) : Nat → NSt
  | 0 => ⟨r, namePool, []⟩
  | i + 1 => let s := nameSt r i; ⟨s.rest.fdiv s.pool.length, s.pool.eraseIdx (s.rest.fmod s.pool.length).toNat, s.names ++ [s.pool.getD (s.rest.fmod s.pool.length).toNat ""]⟩
structure TSt where
  rest : Int
  tree : List (List Int)
noncomputable def rowAt (s : TSt) : List Int := s.tree.getD (s.rest.fmod s.tree.length).toNat [] ++ [(s.rest.fdiv s.tree.length).fmod 3]
noncomputable def treeSt (c : Int) : Nat → TSt
  | 0 => ⟨c, [[]]⟩
  | i + 1 => let s := treeSt c i; ⟨(s.rest.fdiv s.tree.length).fdiv 3, if rowAt s ∈ s.tree then s.tree else s.tree ++ [rowAt s]⟩
noncomputable def treeOf (c : Int) : List (List Int) := (treeSt c 3).tree
noncomputable def cellsOf (ns : List Int) : List Int := cellsAt (ns.take 60) (ns.take 60).length
noncomputable def namesOf (ns : List Int) : List Str := (nameSt (((cellsOf ns).getD 0 0).fdiv 3) 3).names
noncomputable def treesOf (ns : List Int) : List (List (List Int)) := ((cellsOf ns).drop 1).map treeOf

theorem cellsAt_length (ns : List Int) : ∀ i, (cellsAt ns i).length = 4
  | 0 => rfl
  | i + 1 => by rw [cellsAt, List.length_set]; exact cellsAt_length ns i
theorem nameSt_length (r : Int) : ∀ i, i ≤ 12 → (nameSt r i).pool.length = 12 - i ∧ (nameSt r i).names.length = i
  | 0, _ => ⟨rfl, rfl⟩
  | i + 1, h => by
    obtain ⟨h1, h2⟩ := nameSt_length r i (by omega)
    have h3 : 0 ≤ (nameSt r i).rest.fmod (nameSt r i).pool.length := Int.fmod_nonneg_of_pos _ (by omega)
    have h4 : (nameSt r i).rest.fmod (nameSt r i).pool.length < (nameSt r i).pool.length := Int.fmod_lt_of_pos _ (by omega)
    refine ⟨?_, ?_⟩
    · show ((nameSt r i).pool.eraseIdx _).length = _
      rw [List.length_eraseIdx_of_lt (by omega)]; omega
    · show ((nameSt r i).names ++ [_]).length = _
      simp [h2]
theorem treeSt_length (c : Int) : ∀ i, 1 ≤ (treeSt c i).tree.length ∧ (treeSt c i).tree.length ≤ i + 1
  | 0 => ⟨Nat.le_refl 1, Nat.le_refl 1⟩
  | i + 1 => by
    obtain ⟨h1, h2⟩ := treeSt_length c i
    show 1 ≤ (ite _ _ _ : List (List Int)).length ∧ (ite _ _ _ : List (List Int)).length ≤ _
    split
    · exact ⟨h1, by omega⟩
    · simp; omega
theorem getD_map_int (l : List Int) (i : Nat) (h : i < l.length) : (l.map D.int).getD i .none = .int (l.getD i 0) := by
  simp [List.getD, h]
theorem eraseIdx_map' {α β : Type} (f : α → β) : ∀ (l : List α) (i : Nat), (l.map f).eraseIdx i = (l.eraseIdx i).map f
  | [], i => by simp
  | x :: l, 0 => by simp
  | x :: l, i + 1 => by simp [eraseIdx_map' f l i]
theorem fmod_nat (i n : Nat) : (i : Int).fmod n = ((i % n : Nat) : Int) := by
  rw [Int.fmod_eq_emod_of_nonneg _ (by omega)]; omega

theorem TRow_enc (r : List Int) : TRow.enc r = .list (r.map .int) := rfl
theorem TTree_enc (t : List (List Int)) : TTree.enc t = .list (t.map TRow.enc) := rfl
theorem treeSt_rows (c : Int) : ∀ i, ∀ r ∈ (treeSt c i).tree, r.length ≤ i
  | 0, r, h => by simp [treeSt] at h; subst h; exact Nat.le_refl 0
  | i + 1, r, h => by
    have ih := treeSt_rows c i
    have h : r ∈ (if rowAt (treeSt c i) ∈ (treeSt c i).tree then (treeSt c i).tree else (treeSt c i).tree ++ [rowAt (treeSt c i)]) := h
    split at h
    · exact Nat.le_succ_of_le (ih r h)
    · rcases List.mem_append.mp h with h | h
      · exact Nat.le_succ_of_le (ih r h)
      · rw [List.mem_singleton] at h
        subst h
        unfold rowAt
        rw [List.length_append]
        have : ((treeSt c i).tree.getD ((treeSt c i).rest.fmod (treeSt c i).tree.length).toNat []).length ≤ i := by
          rw [List.getD_eq_getElem?_getD]
          cases e : (treeSt c i).tree[((treeSt c i).rest.fmod (treeSt c i).tree.length).toNat]? with
          | none => simp
          | some r => exact ih r (List.mem_of_getElem? e)
        simp only [List.length_cons, List.length_nil]; omega
section
theorem evs_str {w : World} {k : Nat} {sc : Scope} {σ σ' : St} {x : Str} {kd : Nat} {pos : Pos} {es : List PySem.Expr} {ds : List D} (hs : Evs w k sc σ es ds σ') : Evs w k sc σ (.Constant (.str x) kd pos :: es) (.str x :: ds) σ' := evs_cons ev_str hs
theorem c_drawn (w : World) (ns : List Int) (hz : ns.length ≤ 1000) : Contract w 2 (.ref 169) [.list (ns.map .int)] (.tup [.int (((cellsOf ns).getD 0 0).fmod 3), .list ((sortS (namesOf ns)).map .str), .list ((treesOf ns).map TTree.enc)]) := by
  obtain ⟨fd, X, hb⟩ := fn__law_drawn w
  have z : ∀ n, n ≤ 1000 → n ≤ sizeLine := fun n h => by simp only [sizeLine]; omega
  refine contract_def (k := 1) X [Str.ofString "script"] hb rfl (by decide) (by rfl) ⟨rfl, rfl, rfl⟩ ?_
  refine exs_cons (ex_assign_own (evN_list (evs_cons ev_int (evs_cons ev_int (evs_cons ev_int (evs_cons ev_int evs_nil))))) (by rfl)) ?_
  have e60 : (ns.map D.int).take 60 = (ns.take 60).map .int := List.map_take.symm
  have l60 : ((ns.map D.int).take 60).length = (ns.take 60).length := by rw [e60, List.length_map]
  refine exs_cons (ex_for' (σe := [("cells", .own (.list ((cellsOf ns).map .int)))]) (fun i => [("cells", .own (.list ((cellsAt (ns.take 60) i).map .int)))]) (iters_enum (l := (ns.map D.int).take 60) nm_enumerate (ev_take (ds := ns.map D.int) (n := 60) (ev_name (by rfl)) ev_int rfl (z _ (by simpa using hz)))) ⟨by rfl, trivial⟩ (by rw [l60]; rfl) (fun i hi => ?_)) ?_
  · rw [l60] at hi
    rw [e60, getD_map_int _ _ hi]
    have h4 := cellsAt_length (ns.take 60) i
    refine ⟨_, .next, asg_tuple (Asgs.cons (asg_local (by rfl)) (Asgs.cons (asg_local (by rfl)) (Asgs.nil _))), .inl rfl, ?_⟩
    refine exs_cons (ex_aug_item (j := i % 4) (by rfl) (ev_binop (ev_name (by rfl)) ev_int (op_mod_int (by decide))) (fmod_nat i 4) (by rfl) (d := .int ((cellsAt (ns.take 60) i).getD (i % 4) 0)) ?_ (ev_binop (ev_name (by rfl)) ev_int (op_mod_int (by decide))) (by rfl) op_iadd_int (z _ (by simp [h4])) (by rfl)) (exs_to ⟨?_, trivial⟩)
    · have : i % 4 < (cellsAt (ns.take 60) i).length := by omega
      simp [List.getD, this]
    · rw [lookup_put, if_pos rfl]
      show some (Slot.own (D.list _)) = some (Slot.own (D.list _))
      rw [cellsAt, List.map_set]
  with_reducible refine exs_freeze (d := .list ((cellsOf ns).map .int)) "cells" ?q ?_
  case q => rfl
  have hc4 : (cellsOf ns).length = 4 := cellsAt_length _ _
  have hc0 : ((cellsOf ns).map D.int)[(0 : Int).toNat]? = some (.int ((cellsOf ns).getD 0 0)) := by simp [List.getD, hc4]
  let pool0 : List D := [.str (Str.ofString "\t"), .str (Str.ofString "\n"), .str (Str.ofString "\r"), .str (Str.ofString "\""), .str (Str.ofString "#"), .str (Str.ofString "&"), .str (Str.ofString "'"), .str (Str.ofString "<"), .str (Str.ofString "="), .str (Str.ofString ">"), .str (Str.ofString "a"), .str (Str.ofString "&lt;")]
  let s0 : St := [("cells", .fz (.list ((cellsOf ns).map .int)))]
  show Exs w 1 (defScope 25) s0 _ _ _
  refine exs_cons (σ₁ := put s0 "pool" (.own (.list pool0))) ?pa ?_
  case pa =>
    with_reducible refine ex_assign_own (σ₁ := s0) (d := .list pool0) (evN_list ?l ?z) ?h ?k ?s
    case l => with_reducible exact evs_str (evs_str (evs_str (evs_str (evs_str (evs_str (evs_str (evs_str (evs_str (evs_str (evs_str (evs_str evs_nil)))))))))))
    case z => decide
    case h => rfl
    case k => rfl
    case s => intro _ _; rfl
  refine exs_cons (ex_assign (ev_binop (ev_item (ev_name (by rfl)) ev_int (item_list (by decide) hc0 (z _ (by simp [hc4])))) ev_int (op_floordiv_int (by decide) (noPylong (by decide)))) (asg_local (by rfl))) ?_
  refine exs_cons (ex_assign_own (evN_list evs_nil) (by rfl)) ?_
  let r0 := ((cellsOf ns).getD 0 0).fdiv 3
  refine exs_cons (ex_for' (σe := [("cells", .fz (.list ((cellsOf ns).map .int))), ("names", .own (.list ((namesOf ns).map .str))), ("pool", .own (.list ((nameSt r0 3).pool.map .str))), ("rest", .fz (.int (nameSt r0 3).rest))]) (fun i => [("cells", .fz (.list ((cellsOf ns).map .int))), ("names", .own (.list ((nameSt r0 i).names.map .str))), ("pool", .own (.list ((nameSt r0 i).pool.map .str))), ("rest", .fz (.int (nameSt r0 i).rest))]) (iters_range nm_range ev_int (by decide) (by decide)) ⟨by rfl, by rfl, by rfl, by rfl, trivial⟩ (by rfl) (fun i hi => ?_)) ?_
  · have hi3 : i < 3 := hi
    obtain ⟨p1, p2⟩ := nameSt_length r0 i (by omega)
    generalize hs : nameSt r0 i = st at p1 p2
    have hs' : nameSt r0 (i + 1) = ⟨st.rest.fdiv st.pool.length, st.pool.eraseIdx (st.rest.fmod st.pool.length).toNat, st.names ++ [st.pool.getD (st.rest.fmod st.pool.length).toNat ""]⟩ := by rw [nameSt, hs]
    rw [hs']
    have h3 : 0 ≤ st.rest.fmod st.pool.length := Int.fmod_nonneg_of_pos _ (by omega)
    have h4 : st.rest.fmod st.pool.length < st.pool.length := Int.fmod_lt_of_pos _ (by omega)
    have hp : (st.pool.map D.str)[(st.rest.fmod st.pool.length).toNat]? = some (.str (st.pool.getD (st.rest.fmod st.pool.length).toNat "")) := by
      have : (st.rest.fmod st.pool.length).toNat < st.pool.length := by omega
      simp [List.getD, this]
    have lenp : (st.pool.map D.str).length = st.pool.length := List.length_map _
    refine ⟨_, .next, asg_local (by rfl), .inl rfl, ?_⟩
    refine exs_cons (ex_assign_tuple (d := .tup [.int (st.rest.fdiv st.pool.length), .int (st.rest.fmod st.pool.length)]) (ev_call nm_divmod (callOk_builtin _) (evs_cons (ev_name (by rfl)) (evs_cons (ev_borrow (.int _) (ev_call nm_len (callOk_builtin _) (evs_cons (ev_name (by rfl)) evs_nil) (op_len_list (z _ (by rw [lenp]; omega))))) evs_nil)) ?_) (asg_tuple (Asgs.cons (asg_local (by rfl)) (Asgs.cons (asg_local (by rfl)) (Asgs.nil _))))) ?_
    · rw [lenp]
      exact op_divmod (by omega) (noPylong (by omega))
    refine exs_cons (ex_append (by rfl) (ev_pop (i := (st.rest.fmod st.pool.length).toNat) (by rfl) (ev_name (by rfl)) (by omega) (by rfl) hp (z _ (by rw [lenp]; omega)) (by rfl)) (by rfl) (z _ (by simp [p2]; omega)) (by rfl)) (exs_to ⟨by rfl, ?_, ?_, by rfl, trivial⟩)
    · rw [lookup_put, if_pos rfl, List.map_append]; rfl
    · refine (show _ = some (Slot.own (.list ((st.pool.map D.str).eraseIdx (st.rest.fmod st.pool.length).toNat))) from rfl).trans ?_
      rw [eraseIdx_map']
  with_reducible refine exs_freeze (d := .list ((namesOf ns).map .str)) "names" ?q ?_
  case q => rfl
  refine exs_cons (ex_assign_own (evN_list evs_nil) (by rfl)) ?_
  let cs := (cellsOf ns).drop 1
  have ecs : ((cellsOf ns).map D.int).drop 1 = cs.map .int := List.map_drop.symm
  have lcs : (((cellsOf ns).map D.int).drop 1).length = cs.length := by rw [ecs, List.length_map]
  have l3 : cs.length = 3 := by rw [List.length_drop, hc4]
  refine exs_cons (ex_for' (σe := [("cells", .fz (.list ((cellsOf ns).map .int))), ("names", .fz (.list ((namesOf ns).map .str))), ("trees", .own (.list ((treesOf ns).map TTree.enc)))]) (fun i => [("cells", .fz (.list ((cellsOf ns).map .int))), ("names", .fz (.list ((namesOf ns).map .str))), ("trees", .own (.list (((cs.take i).map treeOf).map TTree.enc)))]) (iters_list (l := ((cellsOf ns).map D.int).drop 1) (ev_drop (ds := (cellsOf ns).map D.int) (n := 1) (ev_name (by rfl)) ev_int rfl (z _ (by simp [hc4])))) ⟨by rfl, by rfl, by rfl, trivial⟩ ?_ (fun i hi => ?_)) ?_
  · rw [lcs, List.take_length]; rfl
  · rw [lcs] at hi
    rw [ecs, getD_map_int _ _ hi]
    generalize hcell : cs.getD i 0 = cell
    refine ⟨_, .next, asg_local (by rfl), .inl rfl, ?_⟩
    refine exs_cons (ex_assign (ev_name (by rfl)) (asg_local (by rfl))) ?_
    refine exs_cons (ex_assign_own (evN_list (evs_cons (ev_list evs_nil) evs_nil)) (by rfl)) ?_
    let base : St := [("cells", .fz (.list ((cellsOf ns).map .int))), ("names", .fz (.list ((namesOf ns).map .str))), ("trees", .own (.list (((cs.take i).map treeOf).map TTree.enc)))]
    refine exs_cons (ex_for' (σe := [("cells", .fz (.list ((cellsOf ns).map .int))), ("names", .fz (.list ((namesOf ns).map .str))), ("trees", .own (.list (((cs.take i).map treeOf).map TTree.enc))), ("rest", .fz (.int (treeSt cell 3).rest)), ("tree", .own (TTree.enc (treeOf cell)))]) (fun j => [("cells", .fz (.list ((cellsOf ns).map .int))), ("names", .fz (.list ((namesOf ns).map .str))), ("trees", .own (.list (((cs.take i).map treeOf).map TTree.enc))), ("rest", .fz (.int (treeSt cell j).rest)), ("tree", .own (TTree.enc (treeSt cell j).tree))]) (iters_range nm_range ev_int (by decide) (by decide)) ⟨by rfl, by rfl, by rfl, by rfl, by rfl, trivial⟩ (by rfl) (fun j hj => ?_)) ?_
    · have hj3 : j < 3 := hj
      obtain ⟨p1, p2⟩ := treeSt_length cell j
      have p3 := treeSt_rows cell j
      generalize hs : treeSt cell j = st at p1 p2 p3
      have hs' : treeSt cell (j + 1) = ⟨(st.rest.fdiv st.tree.length).fdiv 3, if rowAt st ∈ st.tree then st.tree else st.tree ++ [rowAt st]⟩ := by rw [treeSt, hs]
      rw [hs']
      have h3 : 0 ≤ st.rest.fmod st.tree.length := Int.fmod_nonneg_of_pos _ (by omega)
      have h4 : st.rest.fmod st.tree.length < st.tree.length := Int.fmod_lt_of_pos _ (by omega)
      have hlt : (st.rest.fmod st.tree.length).toNat < st.tree.length := by omega
      have hp : (st.tree.map TRow.enc)[(st.rest.fmod st.tree.length).toNat]? = some (TRow.enc (st.tree.getD (st.rest.fmod st.tree.length).toNat [])) := by simp [List.getD, hlt]
      have hrl : (st.tree.getD (st.rest.fmod st.tree.length).toNat []).length ≤ j := by
        rw [List.getD_eq_getElem?_getD, List.getElem?_eq_getElem hlt]
        exact p3 _ (List.getElem_mem _)
      have lenp : (st.tree.map TRow.enc).length = st.tree.length := List.length_map _
      have hrow : D.list ((st.tree.getD (st.rest.fmod st.tree.length).toNat []).map .int ++ [.int ((st.rest.fdiv st.tree.length).fmod 3)]) = TRow.enc (rowAt st) := by
        rw [TRow_enc]; unfold rowAt; rw [List.map_append]; rfl
      refine ⟨_, .next, asg_local (by rfl), .inl rfl, ?_⟩
      refine exs_cons (ex_assign_tuple (d := .tup [.int (st.rest.fdiv st.tree.length), .int (st.rest.fmod st.tree.length)]) (ev_call nm_divmod (callOk_builtin _) (evs_cons (ev_name (by rfl)) (evs_cons (ev_borrow (.int _) (ev_call nm_len (callOk_builtin _) (evs_cons (ev_name (by rfl)) evs_nil) (op_len_list (ds := st.tree.map TRow.enc) (z _ (by rw [lenp]; omega))))) evs_nil)) ?_) (asg_tuple (Asgs.cons (asg_local (by rfl)) (Asgs.cons (asg_local (by rfl)) (Asgs.nil _))))) ?_
      · rw [lenp]
        exact op_divmod (by omega) (noPylong (by omega))
      refine exs_cons (ex_assign_tuple (ev_call nm_divmod (callOk_builtin _) (evs_cons (ev_name (by rfl)) (evs_cons ev_int evs_nil)) (op_divmod (by decide) (noPylong (by decide)))) (asg_tuple (Asgs.cons (asg_local (by rfl)) (Asgs.cons (asg_local (by rfl)) (Asgs.nil _))))) ?_
      refine exs_cons (ex_if (b := decide (¬ rowAt st ∈ st.tree)) (tr_borrow (tr_compare (Ev.to (ev_binop (ev_item (ev_name (by rfl)) (ev_name (by rfl)) (item_list (d := TRow.enc (st.tree.getD (st.rest.fmod st.tree.length).toNat [])) h3 hp (z _ (by rw [lenp]; omega)))) (ev_list (evs_cons (ev_name (by rfl)) evs_nil)) (op_add_list (z _ (by simp only [List.length_map, List.length_cons, List.length_nil]; omega)))) hrow) (ev_name (by rfl)) (op_notIn_iff TRow (x := rowAt st) (xs := st.tree) (by simp)))) (fun hb => ?_) (fun hb => ?_)) exs_keep
      · have hb' : ¬ rowAt st ∈ st.tree := by simpa using hb
        refine exs_cons (ex_append (ds := st.tree.map TRow.enc) (by rfl) (Ev.to (ev_binop (ev_own_item (ds := st.tree.map TRow.enc) (j := (st.rest.fmod st.tree.length).toNat) (d := TRow.enc (st.tree.getD (st.rest.fmod st.tree.length).toNat [])) (by rfl) (ev_name (by rfl)) (by rfl) (.inl ⟨h3, rfl⟩) hp (z _ (by rw [lenp]; omega)) (by rfl)) (ev_list (evs_cons (ev_name (by rfl)) evs_nil)) (op_add_list (z _ (by simp only [List.length_map, List.length_cons, List.length_nil]; omega)))) hrow) (by rfl) (z _ (by rw [lenp]; omega)) (by rfl)) (exs_to ⟨by rfl, by rfl, by rfl, by rfl, ?_, trivial⟩)
        rw [lookup_put, if_pos rfl, if_neg hb', TTree_enc, List.map_append]; rfl
      · have hb' : rowAt st ∈ st.tree := by simpa using hb
        rw [if_pos hb']
        exact exs_to ⟨by rfl, by rfl, by rfl, by rfl, by rfl, trivial⟩
    with_reducible refine exs_freeze (d := TTree.enc (treeOf cell)) "tree" ?q ?_
    case q => rfl
    refine exs_cons (ex_append (by rfl) (ev_name (by rfl)) (by rfl) (z _ (by simp; omega)) (by rfl)) (exs_to ⟨by rfl, by rfl, ?_, trivial⟩)
    rw [lookup_put, if_pos rfl]
    have : cs.take (i + 1) = cs.take i ++ [cell] := by rw [← hcell, List.take_succ, List.getD_eq_getElem?_getD, List.getElem?_eq_getElem hi]; rfl
    rw [this, List.map_append, List.map_append]; rfl
  with_reducible refine exs_freeze (d := .list ((treesOf ns).map TTree.enc)) "trees" ?q ?_
  case q => rfl
  refine exs_stop (ex_return (ev_tuple (evs_cons (ev_binop (ev_item (ev_name (by rfl)) ev_int (item_list (by decide) hc0 (z _ (by simp [hc4])))) ev_int (op_mod_int (by decide))) (evs_cons (ev_call nm_sorted (callOk_builtin _) (evs_cons (ev_name (by rfl)) evs_nil) (op_sorted_list ?_)) (evs_cons (ev_name (by rfl)) evs_nil))))) (by intro h; cases h)
  have := (nameSt_length r0 3 (by omega)).2
  show (nameSt r0 3).names.length < 64
  omega
end
end Mine
end

noncomputable section
open PySem PySem.W PyProof.Rows PySem.SeqAt
namespace Mine
section
variable {w : World} {k : Nat} {A : Around} {sc : Scope} {F : FrS} {h₀ R R' R'' h h' : Heap} {σ σ' σ₁ σ₂ σ₃ : St} {s s' s'' : Shared} {fn : Prop} {wr : List Addr}

theorem codeAny_compLoop_body {elt target : PySem.Expr} {gens : List Comprehension} {scope : Scope} {pos : Pos} {dp : Nat} {ip : Pos} {it acc : Value} {env : Env} {body : Sem Unit} {R : Result → Shared → Prop} (I : Nat → Shared → Prop)
    (heq : compTurn (.ListComp elt gens scope pos) dp it acc env = (standAt ip >>= fun _ => pyNext it >>= fun r => match r with
      | none => pure (.done .next)
      | some v => letOwnedTupleGo target it v >>= fun _ => assign target env v >>= fun _ => body >>= fun _ => again (.compLoop (.ListComp elt gens scope pos) dp it acc env)))
    (turn : ∀ n s, I n s → wpAny (MM w) A (pyNext it) (fun r s₁ => match r with
      | none => R (.ok .next) s₁
      | some v => wpAny (MM w) A (assign target env v) (fun _ s₂ => wpAny (MM w) A body (fun _ s₃ => ∃ m, m < n ∧ I m s₃) (notedBy (MM w) A env fun e s' => R (.error e) s') s₂) (notedBy (MM w) A env fun e s' => R (.error e) s') s₁) (notedBy (MM w) A env fun e s' => R (.error e) s') s)
    (n : Nat) (h : I n s) (ht : ∀ v, letOwnedTupleGo target it v = pure ()) : codeAny (MM w) A (.compLoop (.ListComp elt gens scope pos) dp it acc env) R s := by
  refine codeAny_loop rfl I (fun n s hI => ?_) n h
  show wpAny _ A ((compTurn (.ListComp elt gens scope pos) dp it acc env).onRaise (fun x => do noteFrame x env; theTreesLotGoes x)) _ _ s
  refine wpAny_noted ?_
  rw [heq]
  refine wpAny_bind (wpAny_standAt (wpAny_bind (wpAny_mono (turn n s hI) (fun r s₁ h₁ => ?_) fun _ _ h' => h')))
  cases r with
  | none => exact wpAny_pure h₁
  | some v =>
    refine wpAny_bind (wpAny_of_eq (ht v) ?_)
    exact wpAny_bind (wpAny_mono h₁ (fun _ s₂ h₂ => wpAny_bind (wpAny_mono h₂ (fun ok s₃ h₃ => wpAny_pure ⟨rfl, h₃⟩) fun _ _ h' => h')) fun _ _ h' => h')

/-- what a comprehension's turn does with its list -/
noncomputable def BodyJ (w : World) (k : Nat) (sc : Scope) (σ : St) (body : Env → Value → Sem Unit) (ds : List D) (σ' : St) (ds' : List D) : Prop :=
  ∀ (A : Around) (F : FrS) (h₀ R R' : Heap) (s s' : Shared) (G : Addr) (wr : List Addr) (Q : Unit → Shared → Prop) (E : Value → Shared → Prop), Fresh F h₀ → Room k A → OffW A F h₀ (G :: wr) → G ∉ wr → CSt w A sc F h₀ R s σ wr G ds R' s' →
    (∀ R'' s'', CSt w A sc F h₀ R s σ' wr G ds' R'' s'' → Le R' R'' → (∀ b ∈ wr, ∀ o, s'.heap.get? b = some o → s''.heap.get? b = some o) → Q () s'') → wpAny (MM w) A (body (mkEnv sc F) (.ref G)) Q E s'

theorem body_emit {elt : PySem.Expr} {d : D} {ds : List D} (h : Ev w k sc σ elt d σ') (hz : ds.length ≤ sizeLine) :
    BodyJ w k sc σ (fun env acc => eval elt env >>= fun x => call (.builtin "list.append") [acc, x] >>= fun _ => pure ()) ds σ' (ds ++ [d]) := fun A F h₀ R R' s s' G wr Q E lh rm O hG C hq =>
  wpAny_bind (C.jd (t := fun env => eval elt env) (K := fun R' v => Rep w R' d v) O rm h fun x R₇ s₇ C₇ st₇ pw₇ r₇ => wpAny_bind (C₇.append O hG r₇ hz fun h₈ sb C₈ =>
    wpAny_pure (hq _ _ C₈ st₇.le fun b hb o e => (sb.2 b fun q => hG (q ▸ hb)).trans (pw₇ b hb o e))))

/-- a comprehension's loop, whatever its turn does -/
theorem comp_loopB {elt target : PySem.Expr} {gens : List Comprehension} {scope : Scope} {pos : Pos} {dp : Nat} {ip : Pos} {I G : Addr} {n : Nat} {ds : Nat → D} {St : Nat → Heap → Prop} {Mid : Nat → Value → Heap → Prop} (body : Env → Value → Sem Unit) (σs : Nat → Mine.St) (out : Nat → List D)
    (heq : ∀ it acc env, compTurn (.ListComp elt gens scope pos) dp it acc env = (standAt ip >>= fun _ => pyNext it >>= fun r => match r with
      | none => pure (.done .next)
      | some v => letOwnedTupleGo target it v >>= fun _ => assign target env v >>= fun _ => body env acc >>= fun _ => again (.compLoop (.ListComp elt gens scope pos) dp it acc env)))
    (turn : ∀ i, i < n → ∃ σt, Asg w k sc False (σs i) target (ds i) σt ∧ BodyJ w k sc σt body (out i) (σs (i + 1)) (out (i + 1)))
    (ht : ∀ it v, letOwnedTupleGo target it v = pure ()) (lh : Fresh F h₀) (rm : Room k A) {R₀ : Heap} (hR : Le R₀ R) {ro : List Addr} (It : IterAt w A target R₀ I wr ro n ds St Mid) (hro : ∀ a ∈ ro, a ∉ frs A ∧ ∃ o, h₀.get? a = some o) (O : OffW A F h₀ (G :: wr)) (hG : G ∉ wr) (C : CSt w A sc F h₀ R s (σs 0) wr G (out 0) R s) (z : St 0 s.heap) :
    codeAny (MM w) A (.compLoop (.ListComp elt gens scope pos) dp (.ref I) (.ref G) (mkEnv sc F)) (fun r s' => ∃ R', r = .ok .next ∧ CSt w A sc F h₀ R s (σs n) [] G (out n) R' s' ∧ ∀ a ∈ wr, R'.get? a = none) s := by
  refine codeAny_compLoop_body (w := w) (A := A) (fun j s' => ∃ i R', j = n - i ∧ i ≤ n ∧ CSt w A sc F h₀ R s (σs i) wr G (out i) R' s' ∧ St i s'.heap) (heq _ _ _) ?_ (n - 0) ⟨0, R, rfl, Nat.zero_le _, C, z⟩ (ht _)
  rintro _ s₃ ⟨i, R₃, rfl, hin, C₃, s3⟩
  have l₃ : Le R₀ R₃ := hR.trans C₃.st.le
  have wk : ∀ {h₁ h₂ : Heap}, (∀ b o, b ∉ wr → h₁.get? b = some o → h₂.get? b = some o) → ∀ b o, b ∉ G :: wr → h₁.get? b = some o → h₂.get? b = some o := fun q b o nb e => q b o (fun z => nb (List.mem_cons_of_mem _ z)) e
  by_cases hlt : i < n
  · refine It.item hlt l₃ C₃.S.ext C₃.S.fr s3 (fun v R₄ h₄ t₄ a1 a2 a3 a4 a5 a6 a7 => ?_) (fun a ha => C₃.Y.r a (List.mem_cons_of_mem _ ha))
    obtain ⟨vs, nn, hG₃, rG₃⟩ := C₃.a
    have r4 : ∀ a ∈ G :: wr, R₄.get? a = none := fun a ha => by
      rcases List.mem_cons.mp ha with e | ha
      · subst e; exact none_of fun o e => (a2 _ o e).elim (fun e => nomatch (C₃.Y.r a List.mem_cons_self).symm.trans e) fun e => nomatch e.symm.trans hG₃
      · exact a5 a ha
    obtain ⟨S₄, Y₄⟩ := C₃.S.growBut (t := t₄) (d := s₃.drawn) O C₃.Y (.of (wk a4)) a1 a3 a2
    have C₄ : CSt w A sc F h₀ R s (σs i) wr G (out i) R₄ { s₃ with heap := h₄, toks := t₄ } := ⟨C₃.st.trans ⟨a1, fun b o e => (a2 b o e).imp id fun z => none_of fun o z' => (by obtain ⟨_, o', e', _⟩ := C₃.S.old b o z'; exact nomatch z.symm.trans e'), _, _, _, rfl⟩, S₄,
      Y₄ (fun a ha => by
        rcases List.mem_cons.mp ha with e | ha
        · subst e; exact ⟨_, a4 _ _ hG hG₃⟩
        · exact It.mlive a7 a ha) r4, C₃.a.move (fun o e => a4 _ o hG e) a1⟩
    have s4 : St (i + 1) h₄ := It.rest ht a7
    obtain ⟨σt, ha, hb⟩ := turn i hlt
    have keep : ∀ {R₅ R₆ : Heap} {s₅ s₆ : Shared}, Le R₀ R₅ → Le R₅ s₅.heap → Le R₅ R₆ → Le R₆ s₆.heap → (∀ b ∈ wr, ∀ o, s₅.heap.get? b = some o → s₆.heap.get? b = some o) → Pres (frs A) h₀ s₅.heap → Pres (frs A) h₀ s₆.heap → St (i + 1) s₅.heap → St (i + 1) s₆.heap := fun l1 l2 l3 l4 pw p5 p6 st => It.frame st pw (fun b hb => by
      obtain ⟨q1, o, q2⟩ := hro b hb
      rw [(p5 b o q2).1 q1, (p6 b o q2).1 q1]) (l1.trans l2) ((l1.trans l3).trans l4)
    refine wpAny_mono (run_locked C₄.S O C₄.Y fun SL => ha.jd a6 A F _ R₄ _ (.refl _) ⟨lock_none lh.L (decide_eq_false fun q => O.l _ q rfl), fun hf y c e => lock_none (lh.c hf y c e) (decide_eq_false fun q => O.c _ q y c e rfl)⟩ rm SL) ?_ fun _ _ e => e.elim
    rintro _ s₅ ⟨R₅, st₅, S₅, Y₅, pw₅, -⟩
    have C₅ : CSt w A sc F h₀ R s σt wr G (out i) R₅ s₅ := ⟨C₄.st.trans st₅, S₅, Y₅, C₄.a.move (pw₅ G List.mem_cons_self) st₅.le⟩
    have s5 : St (i + 1) s₅.heap := keep (l₃.trans a1) S₄.ext st₅.le S₅.ext (fun b hb => pw₅ b (List.mem_cons_of_mem _ hb)) S₄.old S₅.old s4
    refine hb _ _ _ _ _ _ _ _ _ _ _ lh rm O hG C₅ fun R₆ s₆ C₆ l₆ pw₆ => ?_
    exact ⟨n - (i + 1), by omega, i + 1, R₆, rfl, hlt, C₆, keep ((l₃.trans a1).trans st₅.le) S₅.ext l₆ C₆.S.ext pw₆ S₅.old C₆.S.old s5⟩
  · have : i = n := Nat.le_antisymm hin (Nat.not_lt.mp hlt)
    subst this
    refine It.done (l₃.trans C₃.S.ext) s3 fun h₄ t₄ a4 => ?_
    obtain ⟨vs, nn, hG₃, rG₃⟩ := C₃.a
    obtain ⟨S₄, yo⟩ := C₃.S.growBut0 (t := t₄) (d := s₃.drawn) O C₃.Y.own (.of (wk a4)) (.refl _) (fun b o e => a4 b o (fun q => nomatch (C₃.Y.r b (List.mem_cons_of_mem _ q)).symm.trans e) (C₃.S.ext b o e)) fun b o e => .inl e
    exact ⟨R₃, rfl, ⟨C₃.st.trans .heap, S₄, ⟨fun a ha => C₃.Y.r a (by rw [List.mem_singleton] at ha; subst ha; exact List.mem_cons_self), fun a ha => by rw [List.mem_singleton] at ha; subst ha; exact ⟨_, a4 _ _ hG hG₃⟩, fun a ha => yo a (by rw [List.mem_singleton] at ha; subst ha; exact List.mem_cons_self)⟩, C₃.a.move (fun o e => a4 _ o hG e) (.refl _)⟩, fun a ha => C₃.Y.r a (List.mem_cons_of_mem _ ha)⟩

theorem codeAny_compStart1 {elt g1t g1i target iter : PySem.Expr} {i1 ifs : List PySem.Expr} {rest : List Comprehension} {scope : Scope} {pos : Pos} {it acc : Value} {env : Env} {R : Result → Shared → Prop}
    (h0 : codeAny (MM w) A (.compLoop (.ListComp elt (⟨g1t, g1i, i1, 0⟩ :: ⟨target, iter, ifs, 0⟩ :: rest) scope pos) 1 it acc env) R s)
    (h : wpAny (MM w) A (pyIter it) (fun it' s' => codeAny (MM w) A (.compLoop (.ListComp elt (⟨g1t, g1i, i1, 0⟩ :: ⟨target, iter, ifs, 0⟩ :: rest) scope pos) 1 it' acc env) R s')
      (notedBy (MM w) A env fun x s' => R (.error x) s') s) :
    codeAny (MM w) A (.compStart (.ListComp elt (⟨g1t, g1i, i1, 0⟩ :: ⟨target, iter, ifs, 0⟩ :: rest) scope pos) 1 it acc env) R s := by
  refine codeAny_of_tree ?_
  show wpAny _ _ ((compStart (.ListComp elt (⟨g1t, g1i, i1, 0⟩ :: ⟨target, iter, ifs, 0⟩ :: rest) scope pos) 1 it acc env).onRaise (fun x => do noteFrame x env; standAt theWindowsPlace)) _ _ s
  refine wpAny_notedAt ?_
  unfold compStart
  show wpAny _ _ (ask >>= _) _ _ s
  refine wpAny_bind (wpAny_askSetting (wpAny_ite ?_))
  split
  · first
      | exact wpAny_bind (wpAny_pure (wpAny_pure (And.intro rfl h0)))
      | exact wpAny_pure (And.intro rfl h0)
  · first
      | exact wpAny_bind (wpAny_rule (wpAny_bind (wpAny_standAt (wpAny_bind (wpAny_mono h (fun it' s' h' => wpAny_pure (And.intro rfl h')) fun _ _ x => x)))))
      | (refine wpAny_bind (wpAny_rule ?_); show wpAny _ _ (standAt iter.pos >>= _) _ _ s; exact wpAny_bind (wpAny_standAt (wpAny_bind (wpAny_mono h (fun it' s' h' => wpAny_pure (And.intro rfl h')) fun _ _ x => x))))

theorem body_inner {elt g1t g1i target iter : PySem.Expr} {scope : Scope} {pos : Pos} {n : Nat} {ds : Nat → D} (out : Nat → List D) (hi : Iters w k sc σ target iter n ds σ)
    (turn : ∀ j, j < n → ∃ σt, Asg w k sc False σ target (ds j) σt ∧ BodyJ w k sc σt (fun env acc => eval elt env >>= fun x => call (.builtin "list.append") [acc, x] >>= fun _ => pure ()) (out j) σ (out (j + 1)))
    (ht : ∀ it v, letOwnedTupleGo target it v = pure ()) (hs : ∀ env x, foldedSetIterable iter env x = pure x)
    (heq : ∀ it acc env, compTurn (.ListComp elt [⟨g1t, g1i, [], 0⟩, ⟨target, iter, [], 0⟩] scope pos) 1 it acc env = (standAt iter.pos >>= fun _ => pyNext it >>= fun r => match r with
      | none => pure (.done .next)
      | some v => letOwnedTupleGo target it v >>= fun _ => assign target env v >>= fun _ => (eval elt env >>= fun x => call (.builtin "list.append") [acc, x] >>= fun _ => pure ()) >>= fun _ => again (.compLoop (.ListComp elt [⟨g1t, g1i, [], 0⟩, ⟨target, iter, [], 0⟩] scope pos) 1 it acc env))) :
    BodyJ w k sc σ (fun env acc => eval iter env >>= fun x => standAt iter.pos >>= fun _ => foldedSetIterable iter env x >>= fun x => holding [x] (pyIter x) >>= fun it => runOwn (.compStart (.ListComp elt [⟨g1t, g1i, [], 0⟩, ⟨target, iter, [], 0⟩] scope pos) 1 it acc env) env >>= fun _ => pure ()) (out 0) σ (out n) := fun A F h₀ R R' s s' G wr Q E lh rm O hG C hq => by
  have SL := C.S.lock (fun b => decide (b ∈ G :: wr)) fun a ha => C.Y.own a (of_decide_eq_true ha)
  have hl : ∀ {b o}, b ∈ G :: wr → s'.heap.get? b = some o → (lock h₀ s'.heap (fun b => decide (b ∈ G :: wr))).get? b = some o := fun hb e => lock_self (decide_eq_true hb) e
  have hm : ∀ {b o}, b ∈ wr → s'.heap.get? b = some o → (lock h₀ s'.heap (fun b => decide (b ∈ wr))).get? b = some o := fun hb e => lock_self (decide_eq_true hb) e
  have p1 := lock_pres C.S.old (fun b => decide (b ∈ wr))
  have p2 : Pres (frs A) (lock h₀ s'.heap (fun b => decide (b ∈ wr))) (lock h₀ s'.heap (fun b => decide (b ∈ G :: wr))) := .of_le fun b o e => by
    obtain ⟨q1, q2⟩ := only_some.mp e
    refine only_some.mpr ⟨?_, q2⟩
    simp only [Bool.or_eq_true, decide_eq_true_eq] at q1 ⊢
    exact q1.imp id fun q => List.mem_cons_of_mem _ q
  obtain ⟨vs, nn, hG₀, rG₀⟩ := C.a
  refine wpAny_bind (wpAny_mono (hi A F _ R' s' rm SL) (fun x s₁ h₁ => wpAny_bind (wpAny_standAt ?_)) fun _ _ e => e.elim)
  rw [hs]
  refine wpAny_bind (wpAny_pure (wpAny_bind (wpAny_holding (wpAny_mono h₁ (fun it s₂ h₂ => ?_) fun _ _ e => e.elim))))
  obtain ⟨R₂, I, wr₂, St, Mid, rfl, st₂, S₂, It, z, O₂, Y₂⟩ := h₂
  have B1 : Base w (frs A) (lock h₀ s'.heap (fun b => decide (b ∈ wr))) := C.S.base.mono p1
  have S₂' := S₂.unlock B1 p2
  have G2 : s₂.heap.get? G = some (seqObj "list" vs.toArray nn) := (S₂.old G _ (hl List.mem_cons_self hG₀)).1 (O.p G List.mem_cons_self)
  have RG : R₂.get? G = none := none_of fun o e => (st₂.new G o e).elim (fun e => nomatch (C.Y.r G List.mem_cons_self).symm.trans e) fun e => nomatch e.symm.trans (hl List.mem_cons_self hG₀)
  have hG2 : G ∉ wr₂ := fun q => nomatch (O₂.h G q).symm.trans (hl List.mem_cons_self hG₀)
  have nL : ∀ {a}, (lock h₀ s'.heap (fun b => decide (b ∈ G :: wr))).get? a = none → (lock h₀ s'.heap (fun b => decide (b ∈ wr))).get? a = none := fun {a} e => none_of fun o q => by obtain ⟨_, o', q', _⟩ := p2 a o q; exact nomatch e.symm.trans q'
  have O' : OffW A F (lock h₀ s'.heap (fun b => decide (b ∈ wr))) (G :: wr₂) := by
    refine ⟨fun a ha => ?_, fun a ha => ?_, fun a ha => ?_, fun a ha => ?_⟩ <;> rcases List.mem_cons.mp ha with e | ha'
    · subst e; exact lock_none (O.h a List.mem_cons_self) (decide_eq_false hG)
    · exact nL (O₂.h a ha')
    · subst e; exact O.l a List.mem_cons_self
    · exact O₂.l a ha'
    · subst e; exact O.c a List.mem_cons_self
    · exact O₂.c a ha'
    · subst e; exact O.p a List.mem_cons_self
    · exact O₂.p a ha'
  have Gown : ∀ m x d, s₂.heap.Ns F.L m → σ.lookup x = some (.own d) → ¬ At sc F s₂.heap m x (.ref G) := fun m x d hn hx hat => by
    obtain ⟨m', V⟩ := S₂.vars
    have := V.inj hn rfl; subst this
    exact nomatch (V.off x d G hx hat).h.symm.trans (hl List.mem_cons_self hG₀)
  have C₂ : CSt w A sc F (lock h₀ s'.heap (fun b => decide (b ∈ wr))) R₂ s₂ σ wr₂ G (out 0) R₂ s₂ := by
    refine ⟨.refl .., S₂', ⟨fun a ha => ?_, fun a ha => ?_, fun a ha => ?_⟩, ⟨vs, nn, G2, rG₀.mono st₂.le⟩⟩ <;> rcases List.mem_cons.mp ha with e | ha'
    · subst e; exact RG
    · exact Y₂.r a ha'
    · subst e; exact ⟨_, G2⟩
    · exact Y₂.live a ha'
    · subst e; exact Gown
    · exact Y₂.own a ha'
  have lh' : Fresh F (lock h₀ s'.heap (fun b => decide (b ∈ wr))) := ⟨lock_none lh.L (decide_eq_false fun q => O.l _ (List.mem_cons_of_mem _ q) rfl), fun hf y c e => lock_none (lh.c hf y c e) (decide_eq_false fun q => O.c _ (List.mem_cons_of_mem _ q) y c e rfl)⟩
  have main := comp_loopB (w := w) (A := A) (R₀ := R₂) (ro := []) _ (fun _ => σ) out heq turn ht lh' rm (.refl _) It (fun _ h => absurd h List.not_mem_nil) O' hG2 C₂ z
  have fin : ∀ (r : Result) (s₃ : Shared), (∃ R₃, r = .ok .next ∧ CSt w A sc F (lock h₀ s'.heap (fun b => decide (b ∈ wr))) R₂ s₂ σ [] G (out n) R₃ s₃ ∧ ∀ a ∈ wr₂, R₃.get? a = none) → ∃ f, r = .ok f ∧ Q () s₃ := fun r s₃ ⟨R₃, e, C₃, _⟩ => by
    refine ⟨_, e, hq R₃ s₃ ⟨(C.st.trans (st₂.unlock (P := frs A) (lock_pres C.S.old _))).trans (C₃.st.unlock (P := frs A) p1), C₃.S.unlock C.S.base p1, ⟨fun a ha => ?_, fun a ha => ?_, fun a ha => ?_⟩, C₃.a⟩ (st₂.le.trans C₃.st.le) fun b hb o e => (C₃.S.old b o (hm hb e)).1 (O.p b (List.mem_cons_of_mem _ hb))⟩ <;> rcases List.mem_cons.mp ha with e | ha'
    · subst e; exact C₃.Y.r a List.mem_cons_self
    · obtain ⟨o, ho⟩ := C.Y.live a ha
      exact none_of fun o' e' => (C₃.st.new a o' e').elim (fun e' => (st₂.new a o' e').elim (fun e' => nomatch (C.Y.r a ha).symm.trans e') fun e' => nomatch e'.symm.trans (hl ha ho)) fun e' => nomatch e'.symm.trans (hm ha' ho)
    · subst e; exact C₃.Y.live a List.mem_cons_self
    · obtain ⟨o, ho⟩ := C.Y.live a ha
      obtain ⟨_, o', e', _⟩ := C₃.S.old a o (hm ha' ho); exact ⟨o', e'⟩
    · subst e; exact C₃.Y.own a List.mem_cons_self
    · intro m x d hn hx hat
      obtain ⟨o, ho⟩ := C.Y.live a ha
      obtain ⟨m', V⟩ := C₃.S.vars
      have := V.inj hn rfl; subst this
      exact nomatch (V.off x d a hx hat).h.symm.trans (hm ha' ho)
  refine wpAny_bind (wpAny_runOwn ?_)
  rw [Around.mark_none]
  have conv : ∀ {c : Code}, codeAny (MM w) A c (fun r s' => ∃ R₃, r = .ok .next ∧ CSt w A sc F (lock h₀ s'.heap (fun b => decide (b ∈ wr))) R₂ s₂ σ [] G (out n) R₃ s' ∧ ∀ a ∈ wr₂, R₃.get? a = none) s₂ → True := fun _ => trivial
  have main' := codeAny_mono (R' := fun r s₃ => match r with | .ok f => wpAny (MM w) A (pure () : Sem Unit) Q E s₃ | .error e => cameBackBy (MM w) A (mkEnv sc F) E e s₃) main fun r s₃ h => by
    obtain ⟨f, e, q⟩ := fin r s₃ h
    subst e; exact wpAny_pure q
  exact codeAny_compStart1 main' (It.self z main')

theorem compTurn_two (elt it1 it2 t1 t2 : PySem.Expr) (scope : Scope) (pos : Pos) (it acc : Value) (env : Env) : compTurn (.ListComp elt [⟨t1, it1, [], 0⟩, ⟨t2, it2, [], 0⟩] scope pos) 0 it acc env = (standAt it1.pos >>= fun _ => pyNext it >>= fun r => match r with
      | none => pure (.done .next)
      | some v => letOwnedTupleGo t1 it v >>= fun _ => assign t1 env v >>= fun _ => (eval it2 env >>= fun x => standAt it2.pos >>= fun _ => foldedSetIterable it2 env x >>= fun x => holding [x] (pyIter x) >>= fun it => runOwn (.compStart (.ListComp elt [⟨t1, it1, [], 0⟩, ⟨t2, it2, [], 0⟩] scope pos) 1 it acc env) env >>= fun _ => pure ()) >>= fun _ => again (.compLoop (.ListComp elt [⟨t1, it1, [], 0⟩, ⟨t2, it2, [], 0⟩] scope pos) 0 it acc env)) := by
  have e : compTurn (.ListComp elt [⟨t1, it1, [], 0⟩, ⟨t2, it2, [], 0⟩] scope pos) 0 it acc env = (standAt it1.pos >>= fun _ => pyNext it >>= fun r => match r with
      | none => pure (.done .next)
      | some v => letOwnedTupleGo t1 it v >>= fun _ => assign t1 env v >>= fun _ => eval it2 env >>= fun x => standAt it2.pos >>= fun _ => foldedSetIterable it2 env x >>= fun x => holding [x] (pyIter x) >>= fun it' => runOwn (.compStart (.ListComp elt [⟨t1, it1, [], 0⟩, ⟨t2, it2, [], 0⟩] scope pos) 1 it' acc env) env >>= fun _ => again (.compLoop (.ListComp elt [⟨t1, it1, [], 0⟩, ⟨t2, it2, [], 0⟩] scope pos) 0 it acc env)) := by
    rfl
  rw [e]
  congr 1; funext _; congr 1; funext r
  cases r with
  | none => rfl
  | some v => simp only [bind_assoc, pure_bind]
theorem compTurn_in (elt it1 it2 t1 t2 : PySem.Expr) (scope : Scope) (pos : Pos) (it acc : Value) (env : Env) : compTurn (.ListComp elt [⟨t1, it1, [], 0⟩, ⟨t2, it2, [], 0⟩] scope pos) 1 it acc env = (standAt it2.pos >>= fun _ => pyNext it >>= fun r => match r with
      | none => pure (.done .next)
      | some v => letOwnedTupleGo t2 it v >>= fun _ => assign t2 env v >>= fun _ => (eval elt env >>= fun x => call (.builtin "list.append") [acc, x] >>= fun _ => pure ()) >>= fun _ => again (.compLoop (.ListComp elt [⟨t1, it1, [], 0⟩, ⟨t2, it2, [], 0⟩] scope pos) 1 it acc env)) := rfl
theorem BodyJ.weaken {body : Env → Value → Sem Unit} {ds ds' : List D} (h : BodyJ w k sc σ body ds σ₁ ds') (q : ∀ x sl, σ'.lookup x = some sl → σ₁.lookup x = some sl) : BodyJ w k sc σ body ds σ' ds' := fun A F h₀ R R' s s' G wr Q E lh rm O hG C hq =>
  h _ _ _ _ _ _ _ _ _ _ _ lh rm O hG C fun R'' s'' C' l pw => hq R'' s'' ⟨C'.st, C'.S.weaken q, C'.Y.weaken q, C'.a⟩ l pw
/-- a comprehension with two loops -/
theorem comp_two {elt it1 it2 : PySem.Expr} {x1 x2 : Str} {p1 p2 : Pos} {scope : Scope} {pos : Pos} {n : Nat} {ds : Nat → D} {out : List D} (m : Nat → Nat) (ds2 : Nat → Nat → D) (g : Nat → Nat → D)
    (ho : (List.range n).flatMap (fun i => (List.range (m i)).map (g i)) = out) (hz : out.length ≤ sizeLine) (h1 : σ.lookup x1 = none) (h2 : σ.lookup x2 = none) (h12 : x2 ≠ x1) (hx1 : sc.names.lookup x1 = some .local) (hx2 : sc.names.lookup x2 = some .local)
    (hi : ∀ i, i < n → Iters w k sc (put σ x1 (.fz (ds i))) (.Name x2 p2) it2 (m i) (ds2 i) (put σ x1 (.fz (ds i))))
    (turn : ∀ i, i < n → ∀ j, j < m i → ∃ σv, Ev w k sc (put (put σ x1 (.fz (ds i))) x2 (.fz (ds2 i j))) elt (g i j) σv ∧ ∀ x sl, (put σ x1 (.fz (ds i))).lookup x = some sl → σv.lookup x = some sl)
    (hk : sc.kind = .function := by rfl)
    (hs : ∀ env x, foldedSetIterable it2 env x = pure x := by intro _ _; rfl) : CompRun w k sc σ (.ListComp elt [⟨.Name x1 p1, it1, [], 0⟩, ⟨.Name x2 p2, it2, [], 0⟩] scope pos) (.Name x1 p1) n ds out := by
  intro A F h₀ R s I G wr ro St Mid lh rm It hro O hG C z
  let o1 : Nat → List D := fun i => (List.range i).flatMap (fun i => (List.range (m i)).map (g i))
  have hle : ∀ i, i ≤ n → ∀ j, i < n → j ≤ m i → (o1 i ++ (List.range j).map (g i)).length ≤ sizeLine := fun i _ j hi hj => by
    refine Nat.le_trans ?_ hz
    rw [← ho]
    have e : List.range n = List.range i ++ (List.range (n - i)).map (i + ·) := by
      rw [← List.range_add]; congr 1; omega
    rw [e, List.flatMap_append, List.length_append, List.length_append]
    refine Nat.add_le_add_left ?_ _
    obtain ⟨q, hq⟩ : ∃ q, n - i = q + 1 := ⟨n - i - 1, by omega⟩
    rw [hq, List.range_succ_eq_map, List.map_cons, List.flatMap_cons, List.length_append]
    simp only [Nat.add_zero, List.length_map, List.length_range]
    omega
  refine codeAny_mono (comp_loopB (w := w) (A := A) (k := k) (fun env acc => eval it2 env >>= fun x => standAt it2.pos >>= fun _ => foldedSetIterable it2 env x >>= fun x => holding [x] (pyIter x) >>= fun it => runOwn (.compStart (.ListComp elt [⟨.Name x1 p1, it1, [], 0⟩, ⟨.Name x2 p2, it2, [], 0⟩] scope pos) 1 it acc env) env >>= fun _ => pure ()) (ip := it1.pos) (fun _ => σ) o1 ?_ (fun i hlt => ⟨put σ x1 (.fz (ds i)), asg_local hx1 hk, ?_⟩) (fun _ _ => rfl) lh rm (.refl R) It (fun a ha => ⟨(hro a ha).1, (hro a ha).2.2⟩) O hG C z) ?_
  · intro it acc env; exact compTurn_two ..
  · have b : BodyJ w k sc (put σ x1 (.fz (ds i))) (fun env acc => eval it2 env >>= fun x => standAt it2.pos >>= fun _ => foldedSetIterable it2 env x >>= fun x => holding [x] (pyIter x) >>= fun it => runOwn (.compStart (.ListComp elt [⟨.Name x1 p1, it1, [], 0⟩, ⟨.Name x2 p2, it2, [], 0⟩] scope pos) 1 it acc env) env >>= fun _ => pure ()) (o1 i ++ (List.range 0).map (g i)) (put σ x1 (.fz (ds i))) (o1 i ++ (List.range (m i)).map (g i)) := body_inner (w := w) (k := k) (sc := sc) (elt := elt) (g1t := .Name x1 p1) (g1i := it1) (scope := scope) (pos := pos) (fun j => o1 i ++ (List.range j).map (g i)) (hi i hlt) (fun j hj => ?_) (fun _ _ => rfl) hs (by intro it acc env; exact compTurn_in ..)
    · have e0 : o1 i ++ (List.range 0).map (g i) = o1 i := by simp
      have e1 : o1 i ++ (List.range (m i)).map (g i) = o1 (i + 1) := by
        show _ = (List.range (i + 1)).flatMap _
        rw [List.range_succ, List.flatMap_append]; simp [o1]
      rw [e0, e1] at b
      exact b.weaken (put_ext h1)
    · obtain ⟨σv, ev, q⟩ := turn i hlt j hj
      refine ⟨_, asg_local hx2 hk, ?_⟩
      have := (body_emit (ds := o1 i ++ (List.range j).map (g i)) ev (hle i (Nat.le_of_lt hlt) j hlt (Nat.le_of_lt hj))).weaken q
      have e2 : o1 i ++ (List.range (j + 1)).map (g i) = (o1 i ++ (List.range j).map (g i)) ++ [g i j] := by
        rw [List.range_succ, List.map_append, List.append_assoc]; rfl
      rw [e2]; exact this
  · rintro r s' ⟨R', e, C', hw⟩
    refine ⟨σ, R', e, C'.st, C'.S, ho ▸ C'.a, fun a ha => ?_⟩
    rcases List.mem_cons.mp ha with q | ha
    · subst q; exact C'.Y.r a List.mem_cons_self
    · exact hw a ha
end
end Mine
end

noncomputable section
open PySem PySem.W PyProof.Rows PySem.SeqAt
namespace Mine
/-! what _law_texts gives -/
noncomputable abbrev Row := List Int
noncomputable abbrev Tree := List Row
noncomputable def innerOf (row : Row) (tree : Tree) : List Int := ((List.range 3).map fun (k : Nat) => (k : Int)).filter fun k => decide (row ++ [k] ∈ tree)
noncomputable def wholeAt (T : Int → List Str) (ks : List Int) : Nat → List Str
  | 0 => [""]
  | i + 1 => (wholeAt T ks i).flatMap fun one => (T (ks.getD i 0)).map fun two => one ++ two
structure XSt where
  texts : List Str
  held : List (List Int)
noncomputable def textsAt (T : Int → List Str) (row : Row) (trees : List Tree) : Nat → XSt
  | 0 => ⟨[], []⟩
  | i + 1 =>
    let s := textsAt T row trees i
    let tree := trees.getD i []
    if row ∈ tree ∧ ¬ innerOf row tree ∈ s.held then ⟨s.texts ++ wholeAt T (innerOf row tree) (innerOf row tree).length, s.held ++ [innerOf row tree]⟩ else s
noncomputable def rowName (names : List Str) (row : Row) : Str := if row = [] then "/" else names.getD (row.getLastD 0).toNat ""
noncomputable def wrap (name one : Str) : Str := (((Str.ofString "<d n=\"" ++ name) ++ Str.ofString "\">") ++ one) ++ Str.ofString "</d>"
noncomputable def textsF (names : List Str) (trees : List Tree) : Nat → Row → List Str
  | 0, _ => []
  | f + 1, row => (textsAt (fun k => textsF names trees f (row ++ [k])) row trees trees.length).texts.map (wrap (rowName names row))

theorem innerOf_length (row : Row) (tree : Tree) : (innerOf row tree).length ≤ 3 := by
  unfold innerOf
  exact Nat.le_trans (List.length_filter_le _ _) (by simp)
theorem innerOf_mem {row : Row} {tree : Tree} {k : Int} (h : k ∈ innerOf row tree) : (k = 0 ∨ k = 1 ∨ k = 2) ∧ row ++ [k] ∈ tree := by
  unfold innerOf at h
  rw [List.mem_filter] at h
  obtain ⟨h1, h2⟩ := h
  refine ⟨?_, by simpa using h2⟩
  simp only [List.mem_map, List.mem_range] at h1
  obtain ⟨j, hj, rfl⟩ := h1
  omega
theorem getD_mem {α : Type} {l : List α} {i : Nat} {d : α} (h : i < l.length) : l.getD i d ∈ l := by
  rw [List.getD_eq_getElem?_getD, List.getElem?_eq_getElem h]; exact List.getElem_mem h

/-- how many, and how long -/
theorem wholeAt_bound {T : Int → List Str} {ks : List Int} {c L : Nat} (hT : ∀ k ∈ ks, (T k).length ≤ c ∧ ∀ x ∈ T k, x.length ≤ L) : ∀ i, i ≤ ks.length → (wholeAt T ks i).length ≤ c ^ i ∧ ∀ x ∈ wholeAt T ks i, x.length ≤ i * L
  | 0, _ => ⟨by simp [wholeAt], fun x hx => by simp [wholeAt] at hx; subst hx; exact Nat.zero_le _⟩
  | i + 1, h => by
    obtain ⟨h1, h2⟩ := wholeAt_bound hT i (by omega)
    obtain ⟨h3, h4⟩ := hT _ (getD_mem (d := 0) (by omega : i < ks.length))
    constructor
    · show ((wholeAt T ks i).flatMap _).length ≤ _
      rw [List.length_flatMap]
      have : ∀ l : List Str, l.length ≤ c ^ i → (l.map fun one => ((T (ks.getD i 0)).map fun two => one ++ two).length).sum ≤ c ^ i * c := fun l hl => by
        have : (l.map fun one => ((T (ks.getD i 0)).map fun two => one ++ two).length).sum ≤ l.length * c := by
          clear hl
          induction l with
          | nil => simp
          | cons a l ih =>
            simp only [List.map_cons, List.sum_cons, List.length_map, List.length_cons, Nat.add_mul, Nat.one_mul] at ih ⊢
            omega
        exact Nat.le_trans this (Nat.mul_le_mul_right _ hl)
      rw [Nat.pow_succ]; exact this _ h1
    · intro x hx
      simp only [wholeAt, List.mem_flatMap, List.mem_map] at hx
      obtain ⟨one, ho, two, ht, rfl⟩ := hx
      rw [str_add_length]
      have := h2 one ho
      have := h4 two ht
      rw [Nat.add_mul, Nat.one_mul]; omega
theorem textsAt_bound {T : Int → List Str} {row : Row} {trees : List Tree} {c L : Nat} (hc : 1 ≤ c) (hT : ∀ tree ∈ trees, ∀ k ∈ innerOf row tree, (T k).length ≤ c ∧ ∀ x ∈ T k, x.length ≤ L) : ∀ i, i ≤ trees.length → (textsAt T row trees i).texts.length ≤ i * c ^ 3 ∧ (textsAt T row trees i).held.length ≤ i ∧ ∀ x ∈ (textsAt T row trees i).texts, x.length ≤ 3 * L
  | 0, _ => ⟨by simp [textsAt], by simp [textsAt], fun x hx => by simp [textsAt] at hx⟩
  | i + 1, h => by
    obtain ⟨h1, h2, h3⟩ := textsAt_bound hc hT i (by omega)
    have hm := getD_mem (d := ([] : Tree)) (by omega : i < trees.length)
    obtain ⟨w1, w2⟩ := wholeAt_bound (hT _ hm) _ (Nat.le_refl _)
    have l3 := innerOf_length row (trees.getD i [])
    have w1' : (wholeAt T (innerOf row (trees.getD i [])) (innerOf row (trees.getD i [])).length).length ≤ c ^ 3 := Nat.le_trans w1 (Nat.pow_le_pow_right hc l3)
    simp only [textsAt]
    split
    · refine ⟨?_, ?_, fun x hx => ?_⟩
      · rw [List.length_append, Nat.add_mul, Nat.one_mul]; omega
      · simp; omega
      · rcases List.mem_append.mp hx with hx | hx
        · exact h3 x hx
        · exact Nat.le_trans (w2 x hx) (Nat.mul_le_mul_right _ l3)
    · refine ⟨?_, by omega, h3⟩
      rw [Nat.add_mul]; omega
theorem wrap_length (name one : Str) : (wrap name one).length = name.length + one.length + 12 := by
  have e1 : (Str.ofString "<d n=\"").length = 6 := rfl
  have e2 : (Str.ofString "\">").length = 2 := rfl
  have e3 : (Str.ofString "</d>").length = 4 := rfl
  unfold wrap
  simp only [str_add_length, e1, e2, e3]; omega
/-- no inner rows: at most one text -/
theorem textsAt_leaf {T : Int → List Str} {row : Row} {trees : List Tree} (h : ∀ tree ∈ trees, innerOf row tree = []) : ∀ i, i ≤ trees.length → (textsAt T row trees i = ⟨[], []⟩ ∨ textsAt T row trees i = ⟨[""], [[]]⟩)
  | 0, _ => .inl rfl
  | i + 1, hi => by
    have e := h _ (getD_mem (d := ([] : Tree)) (by omega : i < trees.length))
    simp only [textsAt, e]
    rcases textsAt_leaf h i (by omega) with q | q <;> rw [q] <;> split <;> simp_all [wholeAt]
end Mine
end

noncomputable section
open PySem PySem.W PyProof.Rows PySem.SeqAt
namespace Mine
section
variable {w : World} {k : Nat} {A : Around} {sc : Scope} {F : FrS} {h₀ R R' R'' h h' : Heap} {σ σ' σ₁ σ₂ σ₃ : St} {s s' s'' : Shared} {fn : Prop} {wr : List Addr}
theorem op_ne_nil {ds : List D} : Op2 w k (compareOp .NotEq) (.list ds) (.list []) (.bool (!ds.isEmpty)) := fun A R s va vb c ra rb => by
  have hu := room_units c.room 8
  replace ra := ra.list_inv
  obtain ⟨p, vs, rfl, h, r⟩ := ra
  replace rb := rb.list_inv
  obtain ⟨q, us, rfl, h', r'⟩ := rb
  have hl := isList_mono c.ext h
  have hl' := isList_mono c.ext h'
  replace r' := r'.nil_inv
  obtain ⟨rfl⟩ := r'
  cases r with
  | nil => exact RcNeAt.lists (e := fun _ => true) hl hl' rfl (by omega) (fun j h1 => absurd h1 (Nat.not_lt_zero _)) PG w _ _ ⟨R, .refl c, .bool _⟩
  | cons a b => exact RcNeAt.lists_lengths hl hl' (by simp) (by omega) PG w _ _ ⟨R, .refl c, .bool _⟩
theorem op_eq_nil {ds : List D} : Op2 w k (compareOp .Eq) (.list ds) (.list []) (.bool ds.isEmpty) := fun A R s va vb c ra rb => by
  have hu := room_units c.room 8
  replace ra := ra.list_inv
  obtain ⟨p, vs, rfl, h, r⟩ := ra
  replace rb := rb.list_inv
  obtain ⟨q, us, rfl, h', r'⟩ := rb
  have hl := isList_mono c.ext h
  have hl' := isList_mono c.ext h'
  replace r' := r'.nil_inv
  obtain ⟨rfl⟩ := r'
  cases r with
  | nil => exact RcAt.lists (e := fun _ => true) hl hl' rfl (by omega) (fun j h1 => absurd h1 (Nat.not_lt_zero _)) PG w _ _ ⟨R, .refl c, .bool _⟩
  | cons a b => exact RcAt.lists_lengths hl hl' (by simp) (by omega) PG w _ _ ⟨R, .refl c, .bool _⟩
end

/-- how many texts there are, how long they are -/
noncomputable def CC : Nat → Nat
  | 0 => 1
  | 1 => 1
  | f + 2 => 3 * CC (f + 1) ^ 3
noncomputable def LL : Nat → Nat
  | 0 => 0
  | f + 1 => 3 * LL f + 30
structure TreesOk (names : List Str) (trees : List Tree) : Prop where
  n3 : trees.length ≤ 3
  r3 : ∀ t ∈ trees, ∀ r ∈ t, r.length ≤ 3
  nm : ∀ x ∈ names, x.length ≤ 10
  nl : names.length = 3
theorem rowName_le {names : List Str} (h : ∀ x ∈ names, x.length ≤ 10) (row : Row) : (rowName names row).length ≤ 10 := by
  unfold rowName
  split
  · decide
  · rw [List.getD_eq_getElem?_getD]
    cases e : names[(row.getLastD 0).toNat]? with
    | none => exact Nat.zero_le _
    | some x => exact h x (List.mem_of_getElem? e)
theorem CC_pos : ∀ f, 1 ≤ CC f
  | 0 => Nat.le_refl _
  | 1 => Nat.le_refl _
  | f + 2 => by
    have := Nat.pow_le_pow_left (CC_pos (f + 1)) 3
    show 1 ≤ 3 * CC (f + 1) ^ 3
    omega
theorem textsF_bound {names : List Str} {trees : List Tree} (ok : TreesOk names trees) : ∀ f row, 1 ≤ f → 4 ≤ row.length + f → (textsF names trees f row).length ≤ CC f ∧ ∀ x ∈ textsF names trees f row, x.length ≤ LL f
  | 1, row, _, h => by
    have leaf : ∀ tree ∈ trees, innerOf row tree = [] := fun t ht => by
      rw [List.eq_nil_iff_forall_not_mem]
      intro k hk
      have := ok.r3 t ht _ (innerOf_mem hk).2
      rw [List.length_append] at this
      simp at this; omega
    have hn := rowName_le ok.nm row
    simp only [textsF]
    rcases textsAt_leaf (T := fun k => []) leaf trees.length (Nat.le_refl _) with e | e <;> rw [e] <;> simp [CC, wrap_length, LL]
    have : (Str.ofString "").length = 0 := rfl
    omega
  | f + 2, row, _, h => by
    have ih := fun (k : Int) => textsF_bound ok (f + 1) (row ++ [k]) (by omega) (by rw [List.length_append]; simp; omega)
    obtain ⟨h1, _, h3⟩ := textsAt_bound (T := fun k => textsF names trees (f + 1) (row ++ [k])) (row := row) (trees := trees) (CC_pos (f + 1)) (fun t _ k _ => ih k) trees.length (Nat.le_refl _)
    constructor
    · show ((textsAt _ _ _ _).texts.map _).length ≤ 3 * CC (f + 1) ^ 3
      rw [List.length_map]
      exact Nat.le_trans h1 (Nat.mul_le_mul_right _ ok.n3)
    · intro x hx
      have hx : x ∈ (textsAt (fun k => textsF names trees (f + 1) (row ++ [k])) row trees trees.length).texts.map (wrap (rowName names row)) := hx
      obtain ⟨one, ho, rfl⟩ := List.mem_map.mp hx
      rw [wrap_length]
      have := h3 one ho
      have hn := rowName_le ok.nm row
      show _ ≤ 3 * LL (f + 1) + 30
      omega
end Mine
end

noncomputable section
open PySem PySem.W PyProof.Rows PySem.SeqAt
namespace Mine
theorem row_snoc (row : Row) (k : Int) : D.list (row.map D.int ++ [.int k]) = TRow.enc (row ++ [k]) := by
  rw [TRow_enc, List.map_append]; rfl
theorem inner_out (row : Row) (tree : Tree) : ((List.range 3).filter fun (j : Nat) => decide (row ++ [(j : Int)] ∈ tree)).map (fun (j : Nat) => D.int (j : Int)) = (innerOf row tree).map .int := by
  unfold innerOf
  rw [List.filter_map, List.map_map]; rfl
theorem getD_map_str (l : List Str) (i : Nat) (h : i < l.length) : (l.map D.str).getD i .none = .str (l.getD i "") := by
  simp [List.getD, h]
theorem getD_map_tree (l : List Tree) (i : Nat) (h : i < l.length) : (l.map TTree.enc).getD i .none = TTree.enc (l.getD i []) := by
  simp [List.getD, h]
theorem two_out (W B : List Str) : (List.range W.length).flatMap (fun i => (List.range B.length).map fun j => D.str (W.getD i "" ++ B.getD j "")) = (W.flatMap fun one => B.map fun two => one ++ two).map D.str := by
  have hB : ∀ a : Str, ((List.range B.length).map fun j => D.str (a ++ B.getD j "")) = (B.map fun two => a ++ two).map D.str := fun a => by
    rw [map_range_getD (fun t => D.str (a ++ t)) "" B, List.map_map]; rfl
  have e : (fun i => (List.range B.length).map fun j => D.str (W.getD i "" ++ B.getD j "")) = fun i => ((fun a => (B.map fun two => a ++ two).map D.str) (W.getD i "")) := by funext i; exact hB _
  rw [e, List.map_flatMap]
  simp only [List.flatMap_def]
  exact congrArg List.flatten (map_range_getD (fun a : Str => (B.map fun two => a ++ two).map D.str) (Str.ofString "") W)
section
theorem CC_le {f : Nat} (h : f ≤ 3) : CC f ≤ 81 := by rcases le3 h with e | e | e | e <;> rw [e] <;> decide
theorem LL_le {f : Nat} (h : f ≤ 3) : LL f ≤ 390 := by rcases le3 h with e | e | e | e <;> rw [e] <;> decide
theorem c_texts (w : World) (names : List Str) (trees : List Tree) (ok : TreesOk names trees) : ∀ (f : Nat) (row : Row), 1 ≤ f → f ≤ 4 → 4 ≤ row.length + f → row.length ≤ 3 → (∀ k ∈ row, 0 ≤ k ∧ k < 3) →
    Contract w f (.ref 186) [TRow.enc row, .list (trees.map TTree.enc), .list (names.map .str)] (.list ((textsF names trees f row).map .str)) := by
  intro f
  induction f with
  | zero => intro row h; omega
  | succ f ih =>
    intro row _ hf hr hr3 hk
    obtain ⟨fd, X, hb⟩ := fn__law_texts w
    have z : ∀ n, n ≤ 10000000 → n ≤ sizeLine := fun n h => by simp only [sizeLine]; omega
    let T : Int → List Str := fun k => textsF names trees f (row ++ [k])
    have hf3 : f ≤ 3 := by omega
    have hCC : CC f ≤ 81 := CC_le hf3
    have hLL : LL f ≤ 390 := LL_le hf3
    have hT : ∀ t : Tree, ∀ k ∈ innerOf row t, (T k).length ≤ CC f ∧ ∀ x ∈ T k, x.length ≤ LL f := fun t k _ => by
      by_cases h0 : f = 0
      · have : T k = [] := by show textsF names trees f _ = []; rw [h0]; rfl
        rw [this]; exact ⟨Nat.zero_le _, fun x hx => by cases hx⟩
      · exact textsF_bound ok f (row ++ [k]) (by omega) (by rw [List.length_append]; simp; omega)
    have rowz : (row.map D.int).length + 1 ≤ sizeLine := z _ (by rw [List.length_map]; omega)
    refine contract_def (k := f) X [Str.ofString "row", Str.ofString "trees", Str.ofString "names"] hb rfl (by decide) (by rfl) ⟨rfl, rfl, rfl⟩ ?_
    refine exs_cons (ex_assign_own (evN_list evs_nil) (by rfl)) ?_
    refine exs_cons (ex_assign_own (evN_list evs_nil) (by rfl)) ?_
    refine exs_cons (ex_for' (σe := [("row", .fz (TRow.enc row)), ("trees", .fz (.list (trees.map TTree.enc))), ("names", .fz (.list (names.map .str))), ("texts", .own (.list ((textsAt T row trees trees.length).texts.map .str))), ("held", .own (.list ((textsAt T row trees trees.length).held.map TRow.enc)))])
      (fun i => [("row", .fz (TRow.enc row)), ("trees", .fz (.list (trees.map TTree.enc))), ("names", .fz (.list (names.map .str))), ("texts", .own (.list ((textsAt T row trees i).texts.map .str))), ("held", .own (.list ((textsAt T row trees i).held.map TRow.enc)))])
      (iters_list (l := trees.map TTree.enc) (ev_name (by rfl))) ⟨by rfl, by rfl, by rfl, by rfl, by rfl, trivial⟩ (by rw [List.length_map]) (fun i hi => ?_)) ?_
    · rw [List.length_map] at hi
      rw [getD_map_tree _ _ hi]
      have htree := getD_mem (d := ([] : Tree)) hi
      have hAt : textsAt T row trees (i + 1) = (if row ∈ trees.getD i [] ∧ ¬ innerOf row (trees.getD i []) ∈ (textsAt T row trees i).held then ⟨(textsAt T row trees i).texts ++ wholeAt T (innerOf row (trees.getD i [])) (innerOf row (trees.getD i [])).length, (textsAt T row trees i).held ++ [innerOf row (trees.getD i [])]⟩ else textsAt T row trees i) := rfl
      rw [hAt]
      generalize ht : trees.getD i [] = tree at htree
      have hin := innerOf_length row tree
      have hmem := fun k => innerOf_mem (row := row) (tree := tree) (k := k)
      have htl := ok.r3 tree htree
      have hbd : (textsAt T row trees i).texts.length ≤ 3000000 ∧ (textsAt T row trees i).held.length ≤ 3 := by
        obtain ⟨h1, h2, _⟩ := textsAt_bound (CC_pos f) (fun t _ => hT t) i (Nat.le_of_lt hi)
        have := ok.n3
        have h3 : i * CC f ^ 3 ≤ 3 * 81 ^ 3 := Nat.mul_le_mul (by omega) (Nat.pow_le_pow_left hCC 3)
        exact ⟨by omega, by omega⟩
      have hwd : ∀ j, j ≤ (innerOf row tree).length → (wholeAt T (innerOf row tree) j).length ≤ 1000000 ∧ ∀ x ∈ wholeAt T (innerOf row tree) j, x.length ≤ 10000 := fun j hj => by
        obtain ⟨h1, h2⟩ := wholeAt_bound (hT tree) j hj
        refine ⟨Nat.le_trans h1 (Nat.le_trans (Nat.le_trans (Nat.pow_le_pow_left hCC j) (Nat.pow_le_pow_right (by decide) (by omega : j ≤ 3))) (by decide)), fun x hx => ?_⟩
        have := h2 x hx
        have h3 : j * LL f ≤ 3 * 390 := Nat.mul_le_mul (by omega) hLL
        omega
      generalize hst : textsAt T row trees i = st at hbd
      refine ⟨_, .next, asg_cell (by rfl), .inl rfl, ?_⟩
      refine exs_cons (ex_assign_comp' (out := (innerOf row tree).map .int) [("row", .fz (TRow.enc row)), ("tree", .fz (TTree.enc tree))] (iters_range nm_range ev_int (by decide) (by decide)).r (InnerL.inner ⟨⟨_, rfl⟩, by rfl, by rfl, by rfl, ⟨_, rfl⟩, by rfl, by rfl, by rfl, trivial⟩)
        (comp_one' (fun j => decide (row ++ [(j : Int)] ∈ tree)) (fun j => .int (j : Int)) (inner_out row tree) (by rfl) (by decide) (by rfl) fun j hj => ?_) (by rfl)) ?_
      · refine ⟨_, tests_one (tr_compare (Ev.to (ev_binop (ev_name (by rfl)) (ev_list (evs_cons (ev_name (by rfl)) evs_nil)) (op_add_list (ds := row.map D.int) rowz)) (row_snoc row j)) (ev_name (by rfl)) (op_in_iff TRow (by simp))), fun _ => ⟨_, ev_name (by rfl), put_ext (by rfl)⟩, fun _ => put_ext (by rfl)⟩
      refine exs_freeze "inner" (by rfl) ?_
      refine exs_cons (ex_if (b := decide (row ∈ tree ∧ ¬ innerOf row tree ∈ st.held)) (tr_and (b := decide (row ∈ tree)) (tr_compare (ev_name (by rfl)) (ev_name (by rfl)) (op_in_iff TRow (x := row) (xs := tree) (by simp)))
        (fun h1 => tr_and (b := decide (¬ innerOf row tree ∈ st.held)) (tr_borrow (tr_compare (ev_name (by rfl)) (ev_name (by rfl)) (op_notIn_iff TRow (x := innerOf row tree) (xs := st.held) (by simp)))) (fun h2 => tr_and_nil.to (by simp at h1 h2; simp [h1, h2])) (fun h2 => ⟨by simp at h2; simp [h2], rfl⟩)) (fun h1 => ⟨by simp at h1; simp [h1], rfl⟩)) (fun hc => ?_) (fun hc => ?_)) exs_keep
      · have hc' : row ∈ tree ∧ ¬ innerOf row tree ∈ st.held := by simpa using hc
        rw [if_pos hc']
        refine exs_cons (ex_append (ds := st.held.map TRow.enc) (by rfl) (ev_name (by rfl)) (by rfl) (z _ (by rw [List.length_map]; omega)) (by rfl)) ?_
        refine exs_cons (ex_assign_own (evN_list (evs_cons ev_str evs_nil)) (by rfl)) ?_
        refine exs_cons (ex_for' (σe := [("row", .fz (TRow.enc row)), ("trees", .fz (.list (trees.map TTree.enc))), ("names", .fz (.list (names.map .str))), ("texts", .own (.list (st.texts.map .str))), ("held", .own (.list (st.held.map TRow.enc ++ [TRow.enc (innerOf row tree)]))), ("whole", .own (.list ((wholeAt T (innerOf row tree) (innerOf row tree).length).map .str)))])
          (fun j => [("row", .fz (TRow.enc row)), ("trees", .fz (.list (trees.map TTree.enc))), ("names", .fz (.list (names.map .str))), ("texts", .own (.list (st.texts.map .str))), ("held", .own (.list (st.held.map TRow.enc ++ [TRow.enc (innerOf row tree)]))), ("whole", .own (.list ((wholeAt T (innerOf row tree) j).map .str)))])
          (iters_list (l := (innerOf row tree).map .int) (ev_name (by rfl))) ⟨by rfl, by rfl, by rfl, by rfl, by rfl, by rfl, trivial⟩ (by rw [List.length_map]) (fun j hj => ?_)) ?_
        · rw [List.length_map] at hj
          rw [getD_map_int _ _ hj]
          have hkj := hmem _ (getD_mem (d := 0) hj)
          have hw := hwd j (Nat.le_of_lt hj)
          have hw1 := hwd (j + 1) hj
          have hwa : wholeAt T (innerOf row tree) (j + 1) = (wholeAt T (innerOf row tree) j).flatMap fun one => (T ((innerOf row tree).getD j 0)).map fun two => one ++ two := rfl
          have hkin := getD_mem (d := 0) hj
          generalize hkk : (innerOf row tree).getD j 0 = kj at hkj hwa hkin
          have hlen := htl _ hkj.2
          have hlen : row.length + 1 ≤ 3 := by simpa using hlen
          have hc := ih (row ++ [kj]) (by omega) (by omega) (by rw [List.length_append]; simp; omega) (by rw [List.length_append]; simp; omega) (fun x hx => by
            rcases List.mem_append.mp hx with hx | hx
            · exact hk x hx
            · rw [List.mem_singleton] at hx; rcases hkj.1 with e | e | e <;> rw [hx, e] <;> exact ⟨by decide, by decide⟩)
          refine ⟨_, .next, asg_local (by rfl), .inl rfl, ?_⟩
          refine exs_cons (ex_assign (ev_call nm__law_texts ck__law_texts (evs_cons (Ev.to (ev_binop (ev_name (by rfl)) (ev_list (evs_cons (ev_name (by rfl)) evs_nil)) (op_add_list (ds := row.map D.int) rowz)) (row_snoc row kj)) (evs_cons (ev_name (by rfl)) (evs_cons (ev_name (by rfl)) evs_nil))) hc.op) (asg_cell (by rfl))) ?_
          refine exs_freeze "whole" (by rfl) ?_
          rw [hwa] at hw1 ⊢
          generalize hW : wholeAt T (innerOf row tree) j = W at hw hw1
          have hBl : ∀ x ∈ T kj, x.length ≤ 10000 := fun x hx => by
            have := (hT tree kj hkin).2 x hx; omega
          have hB : (T kj) = textsF names trees f (row ++ [kj]) := rfl
          rw [← hB]
          generalize T kj = B at hw1 hBl
          refine exs_cons (ex_assign_comp' (out := (W.flatMap fun one => B.map fun two => one ++ two).map .str) [("below", .fz (.list (B.map .str)))] (iters_list (l := W.map .str) (ev_name (by rfl))).r (InnerL.inner ⟨⟨_, rfl⟩, by rfl, by rfl, by rfl, trivial⟩)
            (comp_two (fun _ => (B.map D.str).length) (fun _ j => (B.map D.str).getD j .none) (fun a b => .str (W.getD a "" ++ B.getD b "")) (by simp only [List.length_map]; exact two_out W B) (z _ (by rw [List.length_map]; omega)) (by rfl) (by rfl) (by decide) (by rfl) (by rfl) (fun a ha => ?_) (fun a ha b hb => ?_)) (by rfl)) (exs_to ⟨by rfl, by rfl, by rfl, by rfl, by rfl, by rfl, trivial⟩)
          · exact iters_list (l := B.map .str) (ev_name (by rfl))
          · rw [List.length_map] at ha hb
            have l1 := hw.2 _ (getD_mem (d := Str.ofString "") ha)
            have l2 := hBl _ (getD_mem (d := Str.ofString "") hb)
            exact ⟨_, ev_binop ((ev_name (by rfl)).to (getD_map_str W a ha)) ((ev_name (by rfl)).to (getD_map_str B b hb)) (op_add_str (z _ (by omega))), put_ext (by rfl)⟩
        · refine exs_freeze "whole" (by rfl) ?_
          refine exs_cons (ex_iadd_own (ds := st.texts.map .str) (by rfl) (ev_name (by rfl)) (by rfl) (z _ (by rw [List.length_map, List.length_map]; have := (hwd _ (Nat.le_refl _)).1; omega)) (by rfl)) (exs_to ⟨by rfl, by rfl, by rfl, ?_, ?_, trivial⟩)
          · rw [lookup_put, if_pos rfl, ← List.map_append]
          · refine (show _ = some (Slot.own (.list (st.held.map TRow.enc ++ [TRow.enc (innerOf row tree)]))) from rfl).trans ?_
            rw [List.map_append]; rfl
      · have hc' : ¬ (row ∈ tree ∧ ¬ innerOf row tree ∈ st.held) := by simpa using hc
        rw [if_neg hc']
        exact exs_to ⟨by rfl, by rfl, by rfl, by rfl, by rfl, trivial⟩
    refine exs_freeze "texts" (by rfl) ?_
    have hnm := ok.nl
    have hR : textsF names trees (f + 1) row = (textsAt T row trees trees.length).texts.map (wrap (rowName names row)) := rfl
    obtain ⟨b1, _, b3⟩ := textsAt_bound (T := T) (row := row) (trees := trees) (CC_pos f) (fun t _ => hT t) trees.length (Nat.le_refl _)
    have b1' : (textsAt T row trees trees.length).texts.length ≤ 3000000 := by
      have := ok.n3
      have h3 : trees.length * CC f ^ 3 ≤ 3 * 81 ^ 3 := Nat.mul_le_mul (by omega) (Nat.pow_le_pow_left hCC 3)
      omega
    have hname : (rowName names row).length ≤ 10 := rowName_le ok.nm row
    rw [hR]
    generalize (textsAt T row trees trees.length).texts = texts at b1' b3
    refine exs_sub (σ₁ := [("row", .fz (TRow.enc row)), ("names", .fz (.list (names.map .str))), ("texts", .fz (.list (texts.map .str)))]) ⟨by rfl, by rfl, by rfl, trivial⟩ ?_
    refine exs_cons (ex_assign (σ₁ := [("row", .fz (TRow.enc row)), ("names", .fz (.list (names.map .str))), ("texts", .fz (.list (texts.map .str)))]) (d := .str (rowName names row)) (ev_ifexp (c := !(row.map D.int).isEmpty) (tr_compare (ev_name (by rfl)) (ev_list evs_nil) (op_ne_nil (ds := row.map D.int))) (fun h => ?_) (fun h => ?_)) (asg_cell (by rfl))) ?_
    · have hne : row ≠ [] := by intro e; rw [e] at h; cases h
      have hlast : (row.map D.int).getLast? = some (.int (row.getLastD 0)) := by
        rw [List.getLast?_map]
        cases e : row.getLast? with
        | none => rw [List.getLast?_eq_none_iff] at e; exact absurd e hne
        | some y => rw [List.getLastD_eq_getLast?, e]; rfl
      have hlk : 0 ≤ row.getLastD 0 ∧ row.getLastD 0 < 3 := by
        cases e : row.getLast? with
        | none => rw [List.getLast?_eq_none_iff] at e; exact absurd e hne
        | some y => rw [List.getLastD_eq_getLast?, e]; exact hk y (List.mem_of_getLast? e)
      have hidx : (names.map D.str)[(row.getLastD 0).toNat]? = some (.str (rowName names row)) := by
        have h1 : (row.getLastD 0).toNat < names.length := by omega
        unfold rowName
        rw [if_neg hne]
        generalize (row.getLastD 0).toNat = q at h1
        simp [List.getD, h1]
      exact ev_item (ev_name (by rfl)) (ev_item (ev_name (by rfl)) (ev_neg ev_int) (item_list_last (ds := row.map D.int) hlast (by omega))) (item_list hlk.1 hidx (z _ (by rw [List.length_map]; omega)))
    · have hne : row = [] := by
        cases row with
        | nil => rfl
        | cons a b => cases h
      refine ev_str.to ?_
      unfold rowName; rw [if_pos hne]
    refine exs_stop (ex_return (ev_of_N (evN_comp' (out := (texts.map (wrap (rowName names row))).map .str) [("name", .fz (.str (rowName names row)))] (iters_list (l := texts.map .str) (ev_name (by rfl))).r (InnerL.inner ⟨⟨_, rfl⟩, by rfl, by rfl, by rfl, trivial⟩)
      (comp_map' (fun a => .str (wrap (rowName names row) (texts.getD a ""))) ?_ (by rfl) (z _ (by rw [List.length_map]; omega)) (by rfl) fun a ha => ?_)))) (by intro h; cases h)
    · rw [List.length_map]
      have := map_range_getD (fun one : Str => D.str (wrap (rowName names row) one)) (Str.ofString "") texts
      rw [List.map_map]; exact this
    · rw [List.length_map] at ha
      have l1 := b3 _ (getD_mem (d := Str.ofString "") ha)
      have e1 : (Str.ofString "<d n=\"").length = 6 := rfl
      have e2 : (Str.ofString "\">").length = 2 := rfl
      have e3 : (Str.ofString "</d>").length = 4 := rfl
      refine ⟨_, ev_binop (ev_binop (ev_binop (ev_binop ev_str (ev_name (by rfl)) (op_add_str (z _ ?_))) ev_str (op_add_str (z _ ?_))) ((ev_name (by rfl)).to (getD_map_str texts a ha)) (op_add_str (z _ ?_))) ev_str (op_add_str (z _ ?_)), put_ext (by rfl)⟩
      all_goals (simp only [str_add_length, e1, e2, e3]; omega)
end
end Mine
end

noncomputable section
open PySem PySem.W PyProof.Rows PySem.SeqAt
namespace Mine
/-! dicts of texts -/
noncomputable def aset {α : Type} (l : List (Str × α)) (k : Str) (v : α) : List (Str × α) := if k ∈ l.map (·.1) then l.map (fun p => if p.1 = k then (k, v) else p) else l ++ [(k, v)]
theorem aset_keys {α : Type} (enc : α → D) (l : List (Str × α)) (k : Str) (v : α) : dsetK (l.map (·.1)) k = (aset l k v).map (·.1) ∧ dsetD (l.map (·.1)) (l.map fun p => enc p.2) k (enc v) = (aset l k v).map fun p => enc p.2 := by
  unfold dsetK dsetD aset
  by_cases h : k ∈ l.map (·.1)
  · rw [if_pos h, if_pos h, if_pos h]
    clear h
    refine ⟨?_, ?_⟩
    · rw [List.map_map]; apply List.map_congr_left; intro p _; dsimp; split <;> simp_all
    · induction l with
      | nil => rfl
      | cons p l ih =>
        simp only [List.map_cons, drep]
        rw [ih]
        congr 1
        split <;> rfl
  · rw [if_neg h, if_neg h, if_neg h]
    exact ⟨by simp, by simp⟩
theorem aget_dget {α : Type} (enc : α → D) (k : Str) : ∀ l : List (Str × α), dget (l.map (·.1)) (l.map fun p => enc p.2) k = (l.lookup k).map enc
  | [] => rfl
  | (y, z) :: l => by
    simp only [List.map_cons, dget, List.lookup_cons]
    by_cases e : y = k
    · subst e; simp
    · have : (k == y) = false := by simpa using fun h : k = y => e h.symm
      rw [if_neg e, this]; exact aget_dget enc k l
theorem aset_length {α : Type} (l : List (Str × α)) (k : Str) (v : α) : (aset l k v).length ≤ l.length + 1 := by
  unfold aset; split <;> simp

/-! what _law_spans gives -/
noncomputable abbrev Spans := List (Str × (Int × Int))
structure SSt where
  spans : Spans
  begins : List (Str × Int)
  path : Str
  pos : Int
noncomputable def closeAt (b : List (Str × Int)) (pos : Int) (sp : Spans) (path : Str) : Nat → Spans × Str
  | 0 => (sp, path)
  | j + 1 => let s := closeAt b pos sp path j; (aset s.1 s.2 ((b.lookup s.2).getD 0, pos + 5 + 4 * (j : Int)), pyDirname s.2)
noncomputable def closes (piece : Str) : Nat := (Builtin.Str.occurrences piece "</d>" 0 piece.length (piece.length + 1)).length
noncomputable def pieceStep (known : List (Str × Str)) (k : Nat) (piece : Str) (s : SSt) : SSt :=
  if k % 2 = 1 then
    let path := pyJoin s.path ((known.lookup piece).getD "?")
    ⟨s.spans, aset s.begins path (s.pos - 6), path, s.pos + (piece.length + 1)⟩
  else
    let c := closeAt s.begins s.pos s.spans s.path (closes piece)
    ⟨c.1, s.begins, c.2, s.pos + (piece.length + 1)⟩
noncomputable def spanAt (known : List (Str × Str)) (pieces : List Str) : Nat → SSt
  | 0 => ⟨[], [], "", 0⟩
  | i + 1 => pieceStep known i (pieces.getD i "") (spanAt known pieces i)
noncomputable def spansOf (text : Str) (known : List (Str × Str)) : Spans := (spanAt known (Txt.split text "\"") (Txt.split text "\"").length).spans
noncomputable def spD (l : Spans) : D := .dict (l.map (·.1)) (l.map fun p => .tup [.int p.2.1, .int p.2.2])
noncomputable def kvD (l : List (Str × Str)) : D := .dict (l.map (·.1)) (l.map fun p => .str p.2)
noncomputable def beD (l : List (Str × Int)) : D := .dict (l.map (·.1)) (l.map fun p => .int p.2)

theorem pyDirname_le (p : Str) : (pyDirname p).length ≤ p.length := by
  have h1 : (pyHead p).length ≤ p.length := Txt.slice_le _ _ _
  unfold pyDirname
  split
  · exact Nat.le_trans (len_rstripChars _ _) h1
  · exact h1
theorem pyJoin_le (a b : Str) : (pyJoin a b).length ≤ a.length + b.length + 1 := by
  have e : (Str.ofString "/").length = 1 := rfl
  unfold pyJoin
  split
  · omega
  · split <;> simp only [str_add_length, e] <;> omega
theorem closeAt_bound (b : List (Str × Int)) (pos : Int) (sp : Spans) (path : Str) : ∀ j, (closeAt b pos sp path j).1.length ≤ sp.length + j ∧ (closeAt b pos sp path j).2.length ≤ path.length
  | 0 => ⟨Nat.le_refl _, Nat.le_refl _⟩
  | j + 1 => by
    obtain ⟨h1, h2⟩ := closeAt_bound b pos sp path j
    refine ⟨Nat.le_trans (aset_length _ _ _) (by omega), Nat.le_trans (pyDirname_le _) h2⟩
theorem closes_le (piece : Str) : closes piece ≤ piece.length + 1 := StrLaws.occ_length_le piece "</d>" 0 piece.length (piece.length + 1)
theorem known_le {known : List (Str × Str)} (hk : ∀ p ∈ known, p.2.length ≤ 10) (x : Str) : ((known.lookup x).getD "?").length ≤ 10 := by
  cases e : known.lookup x with
  | none => decide
  | some v =>
    have : ∀ l : List (Str × Str), l.lookup x = some v → ∃ p ∈ l, p.2 = v := fun l => by
      induction l with
      | nil => intro e; cases e
      | cons p l ih =>
        intro e
        rw [List.lookup_cons] at e
        split at e
        · cases e; exact ⟨p, List.mem_cons_self, rfl⟩
        · obtain ⟨q, h, r⟩ := ih e; exact ⟨q, List.mem_cons_of_mem _ h, r⟩
    obtain ⟨p, hm, rfl⟩ := this known e
    exact hk p hm
theorem spanAt_bound {known : List (Str × Str)} {pieces : List Str} {M : Nat} (hk : ∀ p ∈ known, p.2.length ≤ 10) (hp : ∀ x ∈ pieces, x.length ≤ M) : ∀ i, i ≤ pieces.length → (spanAt known pieces i).path.length ≤ 11 * i ∧ (spanAt known pieces i).begins.length ≤ i ∧ (spanAt known pieces i).spans.length ≤ i * (M + 1)
  | 0, _ => ⟨Nat.le_refl 0, Nat.le_refl 0, by simp [spanAt]⟩
  | i + 1, h => by
    obtain ⟨h1, h2, h3⟩ := spanAt_bound hk hp i (by omega)
    have hx := hp _ (getD_mem (d := Str.ofString "") (by omega : i < pieces.length))
    have hv : ((known.lookup (pieces.getD i "")).getD "?").length ≤ 10 := by
      cases e : known.lookup (pieces.getD i "") with
      | none => decide
      | some v =>
        have : ∀ l : List (Str × Str), l.lookup (pieces.getD i "") = some v → ∃ p ∈ l, p.2 = v := fun l => by
          induction l with
          | nil => intro e; cases e
          | cons p l ih =>
            intro e
            rw [List.lookup_cons] at e
            split at e
            · cases e; exact ⟨p, List.mem_cons_self, rfl⟩
            · obtain ⟨q, h, r⟩ := ih e; exact ⟨q, List.mem_cons_of_mem _ h, r⟩
        obtain ⟨p, hm, rfl⟩ := this known e
        exact hk p hm
    have e1 : (i + 1) * (M + 1) = i * (M + 1) + (M + 1) := by rw [Nat.add_mul, Nat.one_mul]
    show (pieceStep known i (pieces.getD i "") (spanAt known pieces i)).path.length ≤ _ ∧ (pieceStep known i (pieces.getD i "") (spanAt known pieces i)).begins.length ≤ _ ∧ (pieceStep known i (pieces.getD i "") (spanAt known pieces i)).spans.length ≤ _
    unfold pieceStep
    split
    · have := pyJoin_le (spanAt known pieces i).path ((known.lookup (pieces.getD i "")).getD "?")
      have := aset_length (spanAt known pieces i).begins (pyJoin (spanAt known pieces i).path ((known.lookup (pieces.getD i "")).getD "?")) ((spanAt known pieces i).pos - 6)
      refine ⟨?_, ?_, ?_⟩ <;> dsimp only <;> omega
    · obtain ⟨c1, c2⟩ := closeAt_bound (spanAt known pieces i).begins (spanAt known pieces i).pos (spanAt known pieces i).spans (spanAt known pieces i).path (closes (pieces.getD i ""))
      have := closes_le (pieces.getD i "")
      refine ⟨?_, ?_, ?_⟩ <;> dsimp only <;> omega
end Mine
end

noncomputable section
open PySem PySem.W PyProof.Rows PySem.SeqAt
namespace Mine
theorem fmod2 (i : Nat) : (i : Int).fmod 2 = ((i % 2 : Nat) : Int) := fmod_nat i 2
section
theorem c_spans (w : World) (text : Str) (known : List (Str × Str)) (hk : ∀ p ∈ known, p.2.length ≤ 10) (hx : text.length ≤ 2000) : Contract w 4 (.ref 193) [.str text, kvD known] (spD (spansOf text known)) := by
  obtain ⟨fd, X, hb⟩ := fn__law_spans w
  have z : ∀ n, n ≤ 10000000 → n ≤ sizeLine := fun n h => by simp only [sizeLine]; omega
  have hw := split_weight text "\"" (by decide)
  have hlen : (Txt.split text "\"").length ≤ 2001 := by omega
  have hpl : ∀ x ∈ Txt.split text "\"", x.length ≤ 2000 := fun x h => Nat.le_trans (part_short h) hx
  have hsz : (Builtin.Str.partsBetween text (Builtin.Str.occurrences text "\"" 0 text.length (text.length + 1)) (Str.ofString "\"").length).length ≤ sizeLine := by
    rw [len_partsBetween]
    have := StrLaws.occ_length_le text "\"" 0 text.length (text.length + 1)
    exact z _ (by omega)
  refine contract_def (k := 3) X [Str.ofString "text", Str.ofString "known"] hb rfl (by decide) (by rfl) ⟨rfl, rfl, rfl⟩ ?_
  unfold spansOf
  generalize hps : Txt.split text "\"" = ps at hlen hpl
  let S := spanAt known ps
  refine exs_cons (ex_assign_own evN_dict0 (by rfl)) ?_
  refine exs_cons (ex_assign_own evN_dict0 (by rfl)) ?_
  refine exs_cons (ex_assign ev_str (asg_local (by rfl))) ?_
  refine exs_cons (ex_assign ev_int (asg_local (by rfl))) ?_
  refine exs_cons (ex_for' (σe := [("known", .fz (kvD known)), ("spans", .own (spD (S ps.length).spans)), ("begins", .own (beD (S ps.length).begins)), ("path", .fz (.str (S ps.length).path)), ("at", .fz (.int (S ps.length).pos))])
    (fun i => [("known", .fz (kvD known)), ("spans", .own (spD (S i).spans)), ("begins", .own (beD (S i).begins)), ("path", .fz (.str (S i).path)), ("at", .fz (.int (S i).pos))])
    (iters_enum (l := ps.map .str) nm_enumerate (Ev.to (ev_method (ev_name (by rfl)) meth_split (callOk_builtin _) (evs_cons ev_str evs_nil) (op_split (by decide) (z _ (by omega)) hsz)) (by rw [hps]))) ⟨by rfl, by rfl, by rfl, by rfl, by rfl, trivial⟩ (by rw [List.length_map]) (fun i hi => ?_)) ?_
  · rw [List.length_map] at hi
    rw [getD_map_str _ _ hi]
    obtain ⟨b1, b2, b3⟩ := spanAt_bound hk hpl i (Nat.le_of_lt hi)
    have hS : S (i + 1) = pieceStep known i (ps.getD i "") (S i) := rfl
    have hpc := hpl _ (getD_mem (d := Str.ofString "") hi)
    rw [hS]
    have hvl : ((known.lookup (ps.getD i "")).getD "?").length ≤ 10 := known_le hk _
    generalize ps.getD i "" = piece at hpc hvl
    have hb3 : (spanAt known ps i).spans.length ≤ 2001 * 2001 := Nat.le_trans b3 (Nat.mul_le_mul (by omega) (by omega))
    change (S i).path.length ≤ _ at b1
    change (S i).begins.length ≤ _ at b2
    change (S i).spans.length ≤ _ at hb3
    generalize S i = st at b1 b2 hb3
    refine ⟨_, .next, asg_tuple (Asgs.cons (asg_local (by rfl)) (Asgs.cons (asg_local (by rfl)) (Asgs.nil _))), .inl rfl, ?_⟩
    unfold pieceStep
    by_cases hp : i % 2 = 1
    · rw [if_pos hp]
      refine exs_cons (ex_if (b := true) (σ' := [("known", .fz (kvD known)), ("spans", .own (spD st.spans)), ("begins", .own (beD (aset st.begins (pyJoin st.path ((known.lookup piece).getD "?")) (st.pos - 6)))), ("path", .fz (.str (pyJoin st.path ((known.lookup piece).getD "?")))), ("at", .fz (.int st.pos)), ("piece", .fz (.str piece))])
        ((tr_compare (ev_binop (ev_name (by rfl)) ev_int (op_mod_int (by decide))) ev_int op_eq_int).to (by rw [fmod2, hp]; rfl)) (fun _ => ?_) (fun h => by cases h)) ?_
      · refine exs_cons (ex_assign (ev_call nm_join ck_join (evs_cons (ev_name (by rfl)) (evs_cons (Ev.to (ev_method (ev_name (by rfl)) meth_dict_get (callOk_builtin _) (evs_cons (ev_name (by rfl)) (evs_cons ev_str evs_nil)) op_dict_get) (by rw [aget_dget D.str]; show ((known.lookup piece).map D.str).getD (D.str "?") = .str ((known.lookup piece).getD "?"); cases known.lookup piece <;> rfl)) evs_nil)) ((c_join w _ _ (by omega)).op.le (by decide))) (asg_local (by rfl))) ?_
        refine exs_cons (ex_setitem (d := .int (st.pos - 6)) (ev_binop (ev_name (by rfl)) ev_int op_sub_int) (by rfl) (ev_name (by rfl)) (by rfl) (z _ (by rw [List.length_map]; omega)) (by rfl)) (exs_to ⟨by rfl, by rfl, ?_, by rfl, by rfl, by rfl, trivial⟩)
        rw [lookup_put, if_pos rfl, (aset_keys D.int _ _ _).1, (aset_keys D.int _ _ _).2]; rfl
      · refine exs_cons (ex_aug (by rfl) (ev_binop (ev_call nm_len (callOk_builtin _) (evs_cons (ev_name (by rfl)) evs_nil) (op_len_str (z _ (by omega)))) ev_int op_add_int) (by rfl) op_iadd_int (by rfl)) (exs_to ⟨by rfl, by rfl, by rfl, by rfl, by rfl, trivial⟩)
    · rw [if_neg hp]
      have hcl := closes_le piece
      have hcount : Txt.count piece "</d>" = ((closes piece : Nat) : Int) := rfl
      refine exs_cons (ex_if (b := false) (σ' := [("known", .fz (kvD known)), ("spans", .own (spD (closeAt st.begins st.pos st.spans st.path (closes piece)).1)), ("begins", .own (beD st.begins)), ("path", .fz (.str (closeAt st.begins st.pos st.spans st.path (closes piece)).2)), ("at", .fz (.int st.pos)), ("piece", .fz (.str piece))])
        ((tr_compare (ev_binop (ev_name (by rfl)) ev_int (op_mod_int (by decide))) ev_int op_eq_int).to (by rw [fmod2, show i % 2 = 0 from by omega]; rfl)) (fun h => by cases h) (fun _ => ?_)) ?_
      · refine exs_cons (ex_for' (σe := [("known", .fz (kvD known)), ("spans", .own (spD (closeAt st.begins st.pos st.spans st.path (closes piece)).1)), ("begins", .own (beD st.begins)), ("path", .fz (.str (closeAt st.begins st.pos st.spans st.path (closes piece)).2)), ("at", .fz (.int st.pos)), ("piece", .fz (.str piece))])
          (fun j => [("known", .fz (kvD known)), ("spans", .own (spD (closeAt st.begins st.pos st.spans st.path j).1)), ("begins", .own (beD st.begins)), ("path", .fz (.str (closeAt st.begins st.pos st.spans st.path j).2)), ("at", .fz (.int st.pos)), ("piece", .fz (.str piece))])
          (iters_range nm_range (Ev.to (ev_method (ev_name (by rfl)) meth_count (callOk_builtin _) (evs_cons ev_str evs_nil) op_count) (by rw [hcount])) (by omega) (by omega)) ⟨by rfl, by rfl, by rfl, by rfl, by rfl, by rfl, trivial⟩ (by rw [Int.toNat_natCast]) (fun j hj => ?_)) exs_keep
        rw [Int.toNat_natCast] at hj
        obtain ⟨c1, c2⟩ := closeAt_bound st.begins st.pos st.spans st.path j
        have hcs : closeAt st.begins st.pos st.spans st.path (j + 1) = (aset (closeAt st.begins st.pos st.spans st.path j).1 (closeAt st.begins st.pos st.spans st.path j).2 ((st.begins.lookup (closeAt st.begins st.pos st.spans st.path j).2).getD 0, st.pos + 5 + 4 * (j : Int)), pyDirname (closeAt st.begins st.pos st.spans st.path j).2) := rfl
        rw [hcs]
        generalize closeAt st.begins st.pos st.spans st.path j = cs at c1 c2
        refine ⟨_, .next, asg_local (by rfl), .inl rfl, ?_⟩
        refine exs_cons (ex_setitem (d := .tup [.int ((st.begins.lookup cs.2).getD 0), .int (st.pos + 5 + 4 * (j : Int))]) (ev_tuple (evs_cons (ev_borrow (.int _) (Ev.to (ev_method (ev_name (by rfl)) meth_dict_get (callOk_builtin _) (evs_cons (ev_name (by rfl)) (evs_cons ev_int evs_nil)) op_dict_get) (by rw [aget_dget D.int]; show ((st.begins.lookup cs.2).map D.int).getD (D.int 0) = .int ((st.begins.lookup cs.2).getD 0); cases st.begins.lookup cs.2 <;> rfl))) (evs_cons (ev_binop (ev_binop (ev_name (by rfl)) ev_int op_add_int) (ev_binop ev_int (ev_name (by rfl)) op_mul4_int) op_add_int) evs_nil))) (by rfl) (ev_name (by rfl)) (by rfl) (z _ (by rw [List.length_map]; omega)) (by rfl)) ?_
        refine exs_cons (ex_assign (ev_call nm_dirname ck_dirname (evs_cons (ev_name (by rfl)) evs_nil) ((c_dirname w _ (by omega)).op.le (by decide))) (asg_local (by rfl))) (exs_to ⟨by rfl, ?_, by rfl, by rfl, by rfl, by rfl, trivial⟩)
        have hk2 := aset_keys (fun p : Int × Int => D.tup [.int p.1, .int p.2]) cs.1 cs.2 ((st.begins.lookup cs.2).getD 0, st.pos + 5 + 4 * (j : Int))
        refine (show _ = some (Slot.own (.dict (dsetK (cs.1.map (·.1)) cs.2) (dsetD (cs.1.map (·.1)) (cs.1.map fun p => .tup [.int p.2.1, .int p.2.2]) cs.2 (.tup [.int ((st.begins.lookup cs.2).getD 0), .int (st.pos + 5 + 4 * (j : Int))])))) from rfl).trans ?_
        rw [hk2.1, hk2.2]; rfl
      · refine exs_cons (ex_aug (by rfl) (ev_binop (ev_call nm_len (callOk_builtin _) (evs_cons (ev_name (by rfl)) evs_nil) (op_len_str (z _ (by omega)))) ev_int op_add_int) (by rfl) op_iadd_int (by rfl)) (exs_to ⟨by rfl, by rfl, by rfl, by rfl, by rfl, trivial⟩)
  refine exs_freeze "spans" (by rfl) ?_
  exact exs_stop (ex_return (ev_name (by rfl))) (by intro h; cases h)
end
end Mine
end

noncomputable section
open PySem PySem.W PyProof.Rows PySem.SeqAt
namespace Mine
section
variable {w : World} {A : Around} {I : Addr} {fp wr : List Addr} {n : Nat} {P : Nat → Value → Prop} {St : Nat → Heap → Prop} {R₀ : Heap}
/-- a comparison that holds wherever the frozen part stands -/
noncomputable def CmpR (w : World) (A : Around) (R₀ : Heap) (op : CmpOp) (P : Nat → Value → Prop) (bt : Nat → Nat → Bool) : Prop :=
  ∀ i j vi vj (s : Shared) (Q : Value → Shared → Prop) (E : Value → Shared → Prop), Le R₀ s.heap → P i vi → P j vj → Q (.bool (bt i j)) s → wpAny (MM w) A (richCompare op vi vj) Q E s

theorem min_loopR (W : Walks PG w A.in1 I fp wr n P St) (bt : Nat → Nat → Bool) (hcmp : CmpR w A.in1 R₀ .Lt P bt) (S : Addr) (hSf : S ∉ fp) (hw : ∀ b o, R₀.get? b = some o → b ∉ wr ∧ b ≠ S) (R : Result → Shared → Prop) :
    ∀ (k j : Nat) (s : Shared) (vb : Value) (c : Nat), n - (j + 1) = k → j + 1 ≤ n → Le R₀ s.heap → St (j + 1) s.heap → P (argBest bt j) vb → s.heap.get? S = some (seqObj "list" #[vb, vb] c) →
    (∀ v h' tk, P (argBest bt (n - 1)) v → (∀ b o, b ∉ wr → b ≠ S → s.heap.get? b = some o → h'.get? b = some o) → R (.ok (.ret v)) { s with heap := h', toks := tk }) →
    codeAny (MM w) A (.builtin "min.loop" ⟨[.ref I, .none, .ref S], []⟩) R s := by
  have hSw : S ∉ wr := fun h => hSf (W.sub _ h)
  have hname : (toString "min" ++ toString ".loop" : String) = "min.loop" := by decide
  intro k
  induction k with
  | zero =>
    intro j s vb c hk hj l0 hst hPb hS hR
    have hin : j + 1 = n := by omega
    refine codeAny_builtin PySem.F.entry_min_loop ?_
    rw [Around.under_plainId PySem.F.plain_min_loop _]
    show wpAny _ A.in1 (seqItems? (.ref S) >>= _) _ _ s
    refine wpAny_bind (wpAny_seqItems hS rfl ?_)
    show wpAny _ A.in1 (tryCatch (pyNext (.ref I)) _ >>= _) _ _ s
    refine wpAny_bind (wpAny_tryCatch (W.done s _ _ (hin ▸ hst) fun h' tk hk' => ?_))
    have hS' := hk' S _ hSw hS
    show wpAny _ A.in1 (updateSeq S (fun _ => #[]) >>= _) _ _ _
    refine wpAny_bind (wpAny_updateSeq hS' rfl (wpAny_bind (wpAny_letGo (wpAny_pure ?_))))
    exact hR vb _ tk (by rw [← hin]; exact hPb) fun b o hbw hbS e => (Heap.get?_update_other _ _ (Ne.symm hbS)).trans (hk' b o hbw e)
  | succ k ih =>
    intro j s vb c hk hj l0 hst hPb hS hR
    have hlt : j + 1 < n := by omega
    refine codeAny_builtin PySem.F.entry_min_loop ?_
    rw [Around.under_plainId PySem.F.plain_min_loop _]
    show wpAny _ A.in1 (seqItems? (.ref S) >>= _) _ _ s
    refine wpAny_bind (wpAny_seqItems hS rfl ?_)
    show wpAny _ A.in1 (tryCatch (pyNext (.ref I)) _ >>= _) _ _ s
    refine wpAny_bind (wpAny_tryCatch (W.item (j + 1) s _ _ hlt hst fun v h' tk hP hst' hk' => ?_))
    have hS' := hk' S _ hSw hS
    have l1 : Le R₀ h' := fun b o e => hk' b o (hw b o e).1 (l0 b o e)
    show wpAny _ A.in1 (tryCatch (holding [v, v] (richCompare .Lt v vb >>= _)) _ >>= _) _ _ _
    refine wpAny_bind (wpAny_tryCatch (wpAny_holding (wpAny_bind (hcmp (j + 1) (argBest bt j) v vb _ _ _ l1 hP hPb ?_))))
    refine wpAny_bind (wpAny_holding (wpAny_truthy_bool ?_))
    refine wpAny_bind (wpAny_letGo (wpAny_pure ?_))
    cases hb : bt (j + 1) (argBest bt j) with
    | true =>
      simp only [if_true]
      refine wpAny_bind (wpAny_updateSeq hS' rfl (wpAny_bind (wpAny_letGo ?_)))
      rw [hname]
      refine wpAny_pure ⟨plainId_quiet PySem.F.plain_min_loop _, ih (j + 1) _ v _ (by omega) hlt (fun b o e => (Heap.get?_update_other _ _ (Ne.symm (hw b o e).2)).trans (l1 b o e)) (W.frame _ _ _ hst' fun b hbf o e => ?_) (by simp only [argBest, hb, if_true]; exact hP) (Heap.get?_update_self _ hS' rfl)
        fun v' h'' tk'' hP' hk'' => ?_⟩
      · exact (Heap.get?_update_other _ _ (fun h : S = b => hSf (by rw [h]; exact hbf))).trans e
      · exact hR v' h'' tk'' hP' fun b o hbw hbS e => hk'' b o hbw hbS ((Heap.get?_update_other _ _ (Ne.symm hbS)).trans (hk' b o hbw e))
    | false =>
      simp only [Bool.false_eq_true, if_false]
      refine wpAny_bind (wpAny_letGo ?_)
      rw [hname]
      refine wpAny_pure ⟨plainId_quiet PySem.F.plain_min_loop _, ih (j + 1) _ vb c (by omega) hlt l1 hst' (by simp only [argBest, hb, Bool.false_eq_true, if_false]; exact hPb) hS' fun v' h'' tk'' hP' hk'' => ?_⟩
      exact hR v' h'' tk'' hP' fun b o hbw hbS e => hk'' b o hbw hbS (hk' b o hbw e)
theorem min_startR (W : Walks PG w A.in1 I fp wr n P St) (bt : Nat → Nat → Bool) (hcmp : CmpR w A.in1 R₀ .Lt P bt) (S : Addr) (hSf : S ∉ fp) (hw : ∀ b o, R₀.get? b = some o → b ∉ wr ∧ b ≠ S) (hn : 0 < n) {s : Shared} {c : Nat} (l0 : Le R₀ s.heap) (hst : St 0 s.heap)
    (hS : s.heap.get? S = some (seqObj "list" #[] c)) {R : Result → Shared → Prop}
    (hR : ∀ v h' tk, P (argBest bt (n - 1)) v → (∀ b o, b ∉ wr → b ≠ S → s.heap.get? b = some o → h'.get? b = some o) → R (.ok (.ret v)) { s with heap := h', toks := tk }) :
    codeAny (MM w) A (.builtin "min.loop" ⟨[.ref I, .none, .ref S], []⟩) R s := by
  have hSw : S ∉ wr := fun h => hSf (W.sub _ h)
  have hname : (toString "min" ++ toString ".loop" : String) = "min.loop" := by decide
  refine codeAny_builtin PySem.F.entry_min_loop ?_
  rw [Around.under_plainId PySem.F.plain_min_loop _]
  show wpAny _ A.in1 (seqItems? (.ref S) >>= _) _ _ s
  refine wpAny_bind (wpAny_seqItems hS rfl ?_)
  show wpAny _ A.in1 (tryCatch (pyNext (.ref I)) _ >>= _) _ _ s
  refine wpAny_bind (wpAny_tryCatch (W.item 0 s _ _ hn hst fun v h' tk hP hst' hk' => ?_))
  have hS' := hk' S _ hSw hS
  have l1 : Le R₀ h' := fun b o e => hk' b o (hw b o e).1 (l0 b o e)
  show wpAny _ A.in1 (updateSeq S (fun _ => #[v, v]) >>= _) _ _ _
  refine wpAny_bind (wpAny_updateSeq hS' rfl ?_)
  rw [hname]
  refine wpAny_pure ⟨plainId_quiet PySem.F.plain_min_loop _, min_loopR W bt hcmp S hSf hw _ _ 0 _ v _ rfl hn (fun b o e => (Heap.get?_update_other _ _ (Ne.symm (hw b o e).2)).trans (l1 b o e)) (W.frame _ _ _ hst' fun b hbf o e => ?_) hP (Heap.get?_update_self _ hS' rfl) fun v' h'' tk'' hP' hk'' => ?_⟩
  · exact (Heap.get?_update_other _ _ (fun h : S = b => hSf (by rw [h]; exact hbf))).trans e
  · exact hR v' h'' tk'' hP' fun b o hbw hbS e => hk'' b o hbw hbS ((Heap.get?_update_other _ _ (Ne.symm hbS)).trans (hk' b o hbw e))

theorem max_loopR (W : Walks PG w A.in1 I fp wr n P St) (bt : Nat → Nat → Bool) (hcmp : CmpR w A.in1 R₀ .Gt P bt) (S : Addr) (hSf : S ∉ fp) (hw : ∀ b o, R₀.get? b = some o → b ∉ wr ∧ b ≠ S) (R : Result → Shared → Prop) :
    ∀ (k j : Nat) (s : Shared) (vb : Value) (c : Nat), n - (j + 1) = k → j + 1 ≤ n → Le R₀ s.heap → St (j + 1) s.heap → P (argBest bt j) vb → s.heap.get? S = some (seqObj "list" #[vb, vb] c) →
    (∀ v h' tk, P (argBest bt (n - 1)) v → (∀ b o, b ∉ wr → b ≠ S → s.heap.get? b = some o → h'.get? b = some o) → R (.ok (.ret v)) { s with heap := h', toks := tk }) →
    codeAny (MM w) A (.builtin "max.loop" ⟨[.ref I, .none, .ref S], []⟩) R s := by
  have hSw : S ∉ wr := fun h => hSf (W.sub _ h)
  have hname : (toString "max" ++ toString ".loop" : String) = "max.loop" := by decide
  intro k
  induction k with
  | zero =>
    intro j s vb c hk hj l0 hst hPb hS hR
    have hin : j + 1 = n := by omega
    refine codeAny_builtin PySem.F.entry_max_loop ?_
    rw [Around.under_plainId PySem.F.plain_max_loop _]
    show wpAny _ A.in1 (seqItems? (.ref S) >>= _) _ _ s
    refine wpAny_bind (wpAny_seqItems hS rfl ?_)
    show wpAny _ A.in1 (tryCatch (pyNext (.ref I)) _ >>= _) _ _ s
    refine wpAny_bind (wpAny_tryCatch (W.done s _ _ (hin ▸ hst) fun h' tk hk' => ?_))
    have hS' := hk' S _ hSw hS
    show wpAny _ A.in1 (updateSeq S (fun _ => #[]) >>= _) _ _ _
    refine wpAny_bind (wpAny_updateSeq hS' rfl (wpAny_bind (wpAny_letGo (wpAny_pure ?_))))
    exact hR vb _ tk (by rw [← hin]; exact hPb) fun b o hbw hbS e => (Heap.get?_update_other _ _ (Ne.symm hbS)).trans (hk' b o hbw e)
  | succ k ih =>
    intro j s vb c hk hj l0 hst hPb hS hR
    have hlt : j + 1 < n := by omega
    refine codeAny_builtin PySem.F.entry_max_loop ?_
    rw [Around.under_plainId PySem.F.plain_max_loop _]
    show wpAny _ A.in1 (seqItems? (.ref S) >>= _) _ _ s
    refine wpAny_bind (wpAny_seqItems hS rfl ?_)
    show wpAny _ A.in1 (tryCatch (pyNext (.ref I)) _ >>= _) _ _ s
    refine wpAny_bind (wpAny_tryCatch (W.item (j + 1) s _ _ hlt hst fun v h' tk hP hst' hk' => ?_))
    have hS' := hk' S _ hSw hS
    have l1 : Le R₀ h' := fun b o e => hk' b o (hw b o e).1 (l0 b o e)
    show wpAny _ A.in1 (tryCatch (holding [v, v] (richCompare .Gt v vb >>= _)) _ >>= _) _ _ _
    refine wpAny_bind (wpAny_tryCatch (wpAny_holding (wpAny_bind (hcmp (j + 1) (argBest bt j) v vb _ _ _ l1 hP hPb ?_))))
    refine wpAny_bind (wpAny_holding (wpAny_truthy_bool ?_))
    refine wpAny_bind (wpAny_letGo (wpAny_pure ?_))
    cases hb : bt (j + 1) (argBest bt j) with
    | true =>
      simp only [if_true]
      refine wpAny_bind (wpAny_updateSeq hS' rfl (wpAny_bind (wpAny_letGo ?_)))
      rw [hname]
      refine wpAny_pure ⟨plainId_quiet PySem.F.plain_max_loop _, ih (j + 1) _ v _ (by omega) hlt (fun b o e => (Heap.get?_update_other _ _ (Ne.symm (hw b o e).2)).trans (l1 b o e)) (W.frame _ _ _ hst' fun b hbf o e => ?_) (by simp only [argBest, hb, if_true]; exact hP) (Heap.get?_update_self _ hS' rfl)
        fun v' h'' tk'' hP' hk'' => ?_⟩
      · exact (Heap.get?_update_other _ _ (fun h : S = b => hSf (by rw [h]; exact hbf))).trans e
      · exact hR v' h'' tk'' hP' fun b o hbw hbS e => hk'' b o hbw hbS ((Heap.get?_update_other _ _ (Ne.symm hbS)).trans (hk' b o hbw e))
    | false =>
      simp only [Bool.false_eq_true, if_false]
      refine wpAny_bind (wpAny_letGo ?_)
      rw [hname]
      refine wpAny_pure ⟨plainId_quiet PySem.F.plain_max_loop _, ih (j + 1) _ vb c (by omega) hlt l1 hst' (by simp only [argBest, hb, Bool.false_eq_true, if_false]; exact hPb) hS' fun v' h'' tk'' hP' hk'' => ?_⟩
      exact hR v' h'' tk'' hP' fun b o hbw hbS e => hk'' b o hbw hbS (hk' b o hbw e)
theorem max_startR (W : Walks PG w A.in1 I fp wr n P St) (bt : Nat → Nat → Bool) (hcmp : CmpR w A.in1 R₀ .Gt P bt) (S : Addr) (hSf : S ∉ fp) (hw : ∀ b o, R₀.get? b = some o → b ∉ wr ∧ b ≠ S) (hn : 0 < n) {s : Shared} {c : Nat} (l0 : Le R₀ s.heap) (hst : St 0 s.heap)
    (hS : s.heap.get? S = some (seqObj "list" #[] c)) {R : Result → Shared → Prop}
    (hR : ∀ v h' tk, P (argBest bt (n - 1)) v → (∀ b o, b ∉ wr → b ≠ S → s.heap.get? b = some o → h'.get? b = some o) → R (.ok (.ret v)) { s with heap := h', toks := tk }) :
    codeAny (MM w) A (.builtin "max.loop" ⟨[.ref I, .none, .ref S], []⟩) R s := by
  have hSw : S ∉ wr := fun h => hSf (W.sub _ h)
  have hname : (toString "max" ++ toString ".loop" : String) = "max.loop" := by decide
  refine codeAny_builtin PySem.F.entry_max_loop ?_
  rw [Around.under_plainId PySem.F.plain_max_loop _]
  show wpAny _ A.in1 (seqItems? (.ref S) >>= _) _ _ s
  refine wpAny_bind (wpAny_seqItems hS rfl ?_)
  show wpAny _ A.in1 (tryCatch (pyNext (.ref I)) _ >>= _) _ _ s
  refine wpAny_bind (wpAny_tryCatch (W.item 0 s _ _ hn hst fun v h' tk hP hst' hk' => ?_))
  have hS' := hk' S _ hSw hS
  have l1 : Le R₀ h' := fun b o e => hk' b o (hw b o e).1 (l0 b o e)
  show wpAny _ A.in1 (updateSeq S (fun _ => #[v, v]) >>= _) _ _ _
  refine wpAny_bind (wpAny_updateSeq hS' rfl ?_)
  rw [hname]
  refine wpAny_pure ⟨plainId_quiet PySem.F.plain_max_loop _, max_loopR W bt hcmp S hSf hw _ _ 0 _ v _ rfl hn (fun b o e => (Heap.get?_update_other _ _ (Ne.symm (hw b o e).2)).trans (l1 b o e)) (W.frame _ _ _ hst' fun b hbf o e => ?_) hP (Heap.get?_update_self _ hS' rfl) fun v' h'' tk'' hP' hk'' => ?_⟩
  · exact (Heap.get?_update_other _ _ (fun h : S = b => hSf (by rw [h]; exact hbf))).trans e
  · exact hR v' h'' tk'' hP' fun b o hbw hbS e => hk'' b o hbw hbS ((Heap.get?_update_other _ _ (Ne.symm hbS)).trans (hk' b o hbw e))
end
end Mine
end

noncomputable section
open PySem PySem.W PyProof.Rows PySem.SeqAt
namespace Mine
open AutoSeq1 (wpAny_loadPart')
open MeetsSeq MeetsSeq2 MeetsSeq3 SeqRoads2
theorem strs_at {vs : List Value} {ss : List Str} (S : StrsAre vs ss) : ∀ i (h : i < ss.length), ∃ t, vs[i]? = some (.str ss[i] t) := by
  induction S with
  | nil => intro i h; exact absurd h (Nat.not_lt_zero _)
  | cons y t r ih =>
    intro i h
    cases i with
    | zero => exact ⟨t, rfl⟩
    | succ i => exact ih i (Nat.lt_of_succ_lt_succ h)
theorem strs_len {vs : List Value} {ss : List Str} (S : StrsAre vs ss) : vs.length = ss.length := by
  induction S with
  | nil => rfl
  | cons y t r ih => exact congrArg Nat.succ ih
noncomputable def ltL : List Str → List Str → Bool
  | x :: xs, y :: ys => if x = y then ltL xs ys else decide (x.cps.toList < y.cps.toList)
  | xs, ys => decide (xs.length < ys.length)
theorem lt_loopS (l b : Addr) {vs us : List Value} {xs ys : List Str} (hx : StrsAre vs xs) (hy : StrsAre us ys) (n n2 : Nat) (dd dd2 : Option Addr) (sl sl2 : Array (Option Value)) (k : Nat) :
    ∀ i : Nat, xs.length - i = k → i ≤ xs.length → i ≤ ys.length → Meets (Builtin.«list.__eq__.loop» ⟨[.ref l, .ref b, rawInt i, rawInt 0], []⟩)
      (fun A R s => s.heap.get? l = some { cls := .type "list", dict := dd, data := .seq vs.toArray n, slots := sl } ∧ s.heap.get? b = some { cls := .type "list", dict := dd2, data := .seq us.toArray n2, slots := sl2 } ∧
        R (.ok (.ret (.bool (ltL (xs.drop i) (ys.drop i))))) s) := by
  have e1 := strs_len hx
  have e2 := strs_len hy
  induction k with
  | zero =>
    intro i hk h1 h2 prog w A R s h
    obtain ⟨hp, g, d, tk, os⟩ := s; obtain ⟨hl, hb, h⟩ := h
    wp_walk using wpAny_loadPart' hl, wpAny_loadPart' hb
    have hi1 : vs.toArray[((i : Nat) : Int).toNat]? = none := by simp; omega
    have hd : xs.drop i = [] := by simp; omega
    rw [hi1]
    wp_walk using wpAny_loadPart' hl, wpAny_loadPart' hb
    have he : ltL (xs.drop i) (ys.drop i) = decide (vs.toArray.size < us.toArray.size) := by
      rw [hd]
      have hz : (ys.drop i).length = ys.length - i := List.length_drop
      cases hy' : ys.drop i with
      | nil => rw [hy'] at hz; simp only [List.length_nil] at hz; unfold ltL; simp; omega
      | cons y zs => rw [hy'] at hz; simp only [List.length_cons] at hz; unfold ltL; simp; omega
    rw [he] at h
    exact h
  | succ k ih =>
    intro i hk h1 h2 prog w A R s h
    obtain ⟨hp, g, d, tk, os⟩ := s; obtain ⟨hl, hb, h⟩ := h
    wp_walk using wpAny_loadPart' hl, wpAny_loadPart' hb
    have hlt : i < xs.length := by omega
    obtain ⟨t, q1⟩ := strs_at hx i hlt
    have hi1 : vs.toArray[((i : Nat) : Int).toNat]? = some (.str xs[i] t) := by simpa using q1
    have hdx : xs.drop i = xs[i] :: xs.drop (i + 1) := List.drop_eq_getElem_cons hlt
    rw [hi1]
    by_cases hlt2 : i < ys.length
    · obtain ⟨u, q2⟩ := strs_at hy i hlt2
      have hi2 : us.toArray[((i : Nat) : Int).toNat]? = some (.str ys[i] u) := by simpa using q2
      have hdy : ys.drop i = ys[i] :: ys.drop (i + 1) := List.drop_eq_getElem_cons hlt2
      have hc : ((i : Int) + 1) = ((i + 1 : Nat) : Int) := by push_cast; rfl
      rw [hi2]
      rw [hdx, hdy, ltL] at h
      refine wpAny_bind (EqAt.str_str xs[i] t ys[i] u prog w _ _ ?_)
      by_cases hb' : xs[i] = ys[i]
      · rw [if_pos hb'] at h
        have hbb : (xs[i] == ys[i]) = true := by simpa using hb'
        rw [hbb]
        wp_walk
        rw [hc]
        exact ⟨plainId_quiet plain_eq_loop _, codeAny_builtin entry_eq_loop (by
          rw [Around.under_plainId plain_eq_loop _]
          exact ih (i + 1) (by omega) (by omega) (by omega) prog w A R _ ⟨hl, hb, h⟩)⟩
      · rw [if_neg hb'] at h
        have hbb : (xs[i] == ys[i]) = false := by simpa using hb'
        rw [hbb]
        wp_walk using wpAny_loadPart' hl, wpAny_loadPart' hb
        rw [hi1, hi2]
        show wpAny (model prog w) A.in1 (compareOp .Lt (.str xs[i] t) (.str ys[i] u) >>= fun v => ret v) _ _ _
        refine wpAny_bind (PyProof.Rows.lt_str ?_)
        exact wpAny_pure h
    · have hi2 : us.toArray[((i : Nat) : Int).toNat]? = none := by simp; omega
      have hdy : ys.drop i = [] := by simp; omega
      rw [hi2]
      wp_walk using wpAny_loadPart' hl, wpAny_loadPart' hb
      have he : ltL (xs.drop i) (ys.drop i) = decide (vs.toArray.size < us.toArray.size) := by
        rw [hdx, hdy]; unfold ltL; simp; omega
      rw [he] at h
      exact h

noncomputable def gtL : List Str → List Str → Bool
  | x :: xs, y :: ys => if x = y then gtL xs ys else decide (y.cps.toList < x.cps.toList)
  | xs, ys => decide (ys.length < xs.length)
theorem gt_loopS (l b : Addr) {vs us : List Value} {xs ys : List Str} (hx : StrsAre vs xs) (hy : StrsAre us ys) (n n2 : Nat) (dd dd2 : Option Addr) (sl sl2 : Array (Option Value)) (k : Nat) :
    ∀ i : Nat, xs.length - i = k → i ≤ xs.length → i ≤ ys.length → Meets (Builtin.«list.__eq__.loop» ⟨[.ref l, .ref b, rawInt i, rawInt 4], []⟩)
      (fun A R s => s.heap.get? l = some { cls := .type "list", dict := dd, data := .seq vs.toArray n, slots := sl } ∧ s.heap.get? b = some { cls := .type "list", dict := dd2, data := .seq us.toArray n2, slots := sl2 } ∧
        R (.ok (.ret (.bool (gtL (xs.drop i) (ys.drop i))))) s) := by
  have e1 := strs_len hx
  have e2 := strs_len hy
  induction k with
  | zero =>
    intro i hk h1 h2 prog w A R s h
    obtain ⟨hp, g, d, tk, os⟩ := s; obtain ⟨hl, hb, h⟩ := h
    wp_walk using wpAny_loadPart' hl, wpAny_loadPart' hb
    have hi1 : vs.toArray[((i : Nat) : Int).toNat]? = none := by simp; omega
    have hd : xs.drop i = [] := by simp; omega
    rw [hi1]
    wp_walk using wpAny_loadPart' hl, wpAny_loadPart' hb
    have he : gtL (xs.drop i) (ys.drop i) = decide (vs.toArray.size > us.toArray.size) := by
      rw [hd]
      have hz : (ys.drop i).length = ys.length - i := List.length_drop
      cases hy' : ys.drop i with
      | nil => rw [hy'] at hz; simp only [List.length_nil] at hz; unfold gtL; simp; omega
      | cons y zs => rw [hy'] at hz; simp only [List.length_cons] at hz; unfold gtL; simp; omega
    rw [he] at h
    exact h
  | succ k ih =>
    intro i hk h1 h2 prog w A R s h
    obtain ⟨hp, g, d, tk, os⟩ := s; obtain ⟨hl, hb, h⟩ := h
    wp_walk using wpAny_loadPart' hl, wpAny_loadPart' hb
    have hlt : i < xs.length := by omega
    obtain ⟨t, q1⟩ := strs_at hx i hlt
    have hi1 : vs.toArray[((i : Nat) : Int).toNat]? = some (.str xs[i] t) := by simpa using q1
    have hdx : xs.drop i = xs[i] :: xs.drop (i + 1) := List.drop_eq_getElem_cons hlt
    rw [hi1]
    by_cases hlt2 : i < ys.length
    · obtain ⟨u, q2⟩ := strs_at hy i hlt2
      have hi2 : us.toArray[((i : Nat) : Int).toNat]? = some (.str ys[i] u) := by simpa using q2
      have hdy : ys.drop i = ys[i] :: ys.drop (i + 1) := List.drop_eq_getElem_cons hlt2
      have hc : ((i : Int) + 1) = ((i + 1 : Nat) : Int) := by push_cast; rfl
      rw [hi2]
      rw [hdx, hdy, gtL] at h
      refine wpAny_bind (EqAt.str_str xs[i] t ys[i] u prog w _ _ ?_)
      by_cases hb' : xs[i] = ys[i]
      · rw [if_pos hb'] at h
        have hbb : (xs[i] == ys[i]) = true := by simpa using hb'
        rw [hbb]
        wp_walk
        rw [hc]
        exact ⟨plainId_quiet plain_eq_loop _, codeAny_builtin entry_eq_loop (by
          rw [Around.under_plainId plain_eq_loop _]
          exact ih (i + 1) (by omega) (by omega) (by omega) prog w A R _ ⟨hl, hb, h⟩)⟩
      · rw [if_neg hb'] at h
        have hbb : (xs[i] == ys[i]) = false := by simpa using hb'
        rw [hbb]
        wp_walk using wpAny_loadPart' hl, wpAny_loadPart' hb
        rw [hi1, hi2]
        show wpAny (model prog w) A.in1 (compareOp .Gt (.str xs[i] t) (.str ys[i] u) >>= fun v => ret v) _ _ _
        refine wpAny_bind (P.gt_str ?_)
        exact wpAny_pure h
    · have hi2 : us.toArray[((i : Nat) : Int).toNat]? = none := by simp; omega
      have hdy : ys.drop i = [] := by simp; omega
      rw [hi2]
      wp_walk using wpAny_loadPart' hl, wpAny_loadPart' hb
      have he : gtL (xs.drop i) (ys.drop i) = decide (vs.toArray.size > us.toArray.size) := by
        rw [hdx, hdy]; unfold gtL; simp; omega
      rw [he] at h
      exact h
end Mine
end

noncomputable section
open PySem PySem.W PyProof.Rows PySem.SeqAt
namespace Mine
open AutoSeq1 (wpAny_loadPart')
open MeetsSeq MeetsSeq2 MeetsSeq3 SeqRoads2

theorem list_ltS (l b : Addr) {vs us : List Value} {xs ys : List Str} (hx : StrsAre vs xs) (hy : StrsAre us ys) (n n2 : Nat) (dd dd2 : Option Addr) (sl sl2 : Array (Option Value)) :
    Meets (Builtin.«list.__lt__» ⟨[.ref l, .ref b], []⟩)
      (fun A R s => s.heap.get? l = some { cls := .type "list", dict := dd, data := .seq vs.toArray n, slots := sl } ∧ s.heap.get? b = some { cls := .type "list", dict := dd2, data := .seq us.toArray n2, slots := sl2 } ∧
        R (.ok (.ret (.bool (ltL xs ys)))) s) := by
  intro prog w A R s h
  obtain ⟨hp, g, d, tk, os⟩ := s; obtain ⟨hl, hb, h⟩ := h
  have f1 := AutoSeq1.idx_int; have f2 := AutoSeq1.sub_tuple_tuple; have f3 := AutoSeq1.sub_list_list; have f4 := AutoSeq1.sub_tuple_list; have f5 := AutoSeq1.sub_list_tuple
  wp_walk using wpAny_loadPart' hl, wpAny_loadPart' hb
  exact ⟨plainId_quiet plain_eq_loop _, codeAny_builtin entry_eq_loop (by
    rw [Around.under_plainId plain_eq_loop _]
    exact lt_loopS l b hx hy n n2 dd dd2 sl sl2 _ 0 rfl (Nat.zero_le _) (Nat.zero_le _) prog w A R _ ⟨hl, hb, h⟩)⟩
theorem rc_ltS {w : World} {A : Around} {s : Shared} {l b : Addr} {vs us : List Value} {xs ys : List Str} {Q : Value → Shared → Prop} {E : Value → Shared → Prop} (hl : s.heap.IsList l vs.toArray) (hb : s.heap.IsList b us.toArray) (hx : StrsAre vs xs) (hy : StrsAre us ys) (hu : A.units < cLine)
    (h : Q (.bool (ltL xs ys)) s) : wpAny (MM w) A (richCompare .Lt (.ref l) (.ref b)) Q E s := by
  obtain ⟨⟨cls, dd, data, sl⟩, ho, hc, n, hd⟩ := id hl
  obtain ⟨⟨cls2, dd2, data2, sl2⟩, ho2, hc2, n2, hd2⟩ := id hb
  simp only at hc hd hc2 hd2
  subst hc hd hc2 hd2
  exact richCompare_meets_room (op := .Lt) ⟨_, ho, rfl⟩ ⟨_, ho2, rfl⟩ PySem.F.slot_list_lt PySem.F.entry_list_lt (PySem.F.args_list_lt_2 _ _) (list_ltS l b hx hy n n2 dd dd2 sl sl2)
    ⟨ho, ho2, show Value.bool (ltL xs ys) ≠ Value.notImplemented ∧ Q (.bool (ltL xs ys)) s from ⟨(fun x => nomatch x), h⟩⟩ hu

theorem list_gtS (l b : Addr) {vs us : List Value} {xs ys : List Str} (hx : StrsAre vs xs) (hy : StrsAre us ys) (n n2 : Nat) (dd dd2 : Option Addr) (sl sl2 : Array (Option Value)) :
    Meets (Builtin.«list.__gt__» ⟨[.ref l, .ref b], []⟩)
      (fun A R s => s.heap.get? l = some { cls := .type "list", dict := dd, data := .seq vs.toArray n, slots := sl } ∧ s.heap.get? b = some { cls := .type "list", dict := dd2, data := .seq us.toArray n2, slots := sl2 } ∧
        R (.ok (.ret (.bool (gtL xs ys)))) s) := by
  intro prog w A R s h
  obtain ⟨hp, g, d, tk, os⟩ := s; obtain ⟨hl, hb, h⟩ := h
  have f1 := AutoSeq1.idx_int; have f2 := AutoSeq1.sub_tuple_tuple; have f3 := AutoSeq1.sub_list_list; have f4 := AutoSeq1.sub_tuple_list; have f5 := AutoSeq1.sub_list_tuple
  wp_walk using wpAny_loadPart' hl, wpAny_loadPart' hb
  exact ⟨plainId_quiet plain_eq_loop _, codeAny_builtin entry_eq_loop (by
    rw [Around.under_plainId plain_eq_loop _]
    exact gt_loopS l b hx hy n n2 dd dd2 sl sl2 _ 0 rfl (Nat.zero_le _) (Nat.zero_le _) prog w A R _ ⟨hl, hb, h⟩)⟩
theorem rc_gtS {w : World} {A : Around} {s : Shared} {l b : Addr} {vs us : List Value} {xs ys : List Str} {Q : Value → Shared → Prop} {E : Value → Shared → Prop} (hl : s.heap.IsList l vs.toArray) (hb : s.heap.IsList b us.toArray) (hx : StrsAre vs xs) (hy : StrsAre us ys) (hu : A.units < cLine)
    (h : Q (.bool (gtL xs ys)) s) : wpAny (MM w) A (richCompare .Gt (.ref l) (.ref b)) Q E s := by
  obtain ⟨⟨cls, dd, data, sl⟩, ho, hc, n, hd⟩ := id hl
  obtain ⟨⟨cls2, dd2, data2, sl2⟩, ho2, hc2, n2, hd2⟩ := id hb
  simp only at hc hd hc2 hd2
  subst hc hd hc2 hd2
  exact richCompare_meets_room (op := .Gt) ⟨_, ho, rfl⟩ ⟨_, ho2, rfl⟩ PySem.F.slot_list_gt PySem.F.entry_list_gt (PySem.F.args_list_gt_2 _ _) (list_gtS l b hx hy n n2 dd dd2 sl sl2)
    ⟨ho, ho2, show Value.bool (gtL xs ys) ≠ Value.notImplemented ∧ Q (.bool (gtL xs ys)) s from ⟨(fun x => nomatch x), h⟩⟩ hu
end Mine
end

noncomputable section
open PySem PySem.W PyProof.Rows PySem.SeqAt
namespace Mine
noncomputable abbrev TSL : Ty := .list .str
section
variable {w : World} {k : Nat} {A : Around} {R : Heap} {s : Shared}
theorem op_minL {ls : List (List Str)} (hne : 0 < ls.length) : OpL w k (fun vs => call (.builtin "min") vs) [.list (ls.map TSL.enc)] (TSL.enc (ls.getD (argBest (fun i j => ltL (ls.getD i []) (ls.getD j [])) (ls.length - 1)) [])) := fun A R s vs c r => by
  replace r := r.cons_inv
  obtain ⟨_, _, rfl, r, n⟩ := r
  cases n
  replace r := r.list_inv
  obtain ⟨a, us, rfl, hl, rs⟩ := r
  have e := rs.length
  rw [List.length_map] at e
  have hl' := isList_mono c.ext hl
  have n := get_size s.heap
  have hname : (toString "min" ++ toString ".loop" : String) = "min.loop" := by decide
  refine PySem.call_function_tree PySem.F.kind_min PySem.F.plain_min PySem.F.entry_min (PySem.F.args_min1 _) ?_
  show wpAny _ A.in1 (Builtin.Builtins.bindParams "min" ["key", "default"] 0 ⟨[], []⟩ >>= _) _ _ s
  refine wpAny_bind (wpAny_of_eq (show Builtin.Builtins.bindParams "min" ["key", "default"] 0 ⟨[], []⟩ = pure [none, none] from rfl) ?_)
  refine wpAny_bind (wpAny_pure ?_)
  refine wpAny_bind (wpAny_pyIter_list hl' ?_)
  refine wpAny_bind (wpAny_newObj_type ?_)
  rw [hname]
  have neI : a ≠ s.heap.objs.size := fun q => by obtain ⟨o, ho, _⟩ := hl'; exact nomatch (q ▸ n).symm.trans ho
  have W := Walks.list (prog := PG) (w := w) (A := A.in1) (by exact c.room.h) s.heap.objs.size a neI us.toArray
  have eu : us.toArray.size = ls.length := by rw [List.size_toArray]; exact e
  rw [eu] at W
  have l1 : Le s.heap (s.heap.push { cls := .type "list_iterator", data := .fields #[.ref a, .int 0 0] }) := Le.push _ _
  have e1 : (s.heap.push { cls := .type "list_iterator", data := .fields #[.ref a, .int 0 0] }).objs.size = s.heap.objs.size + 1 := by rw [size_push']
  have l2 := Le.push (s.heap.push { cls := .type "list_iterator", data := .fields #[.ref a, .int 0 0] }) { cls := .type "list", data := .seq #[] }
  have l3 : Le R ((s.heap.push { cls := .type "list_iterator", data := .fields #[.ref a, .int 0 0] }).push { cls := .type "list", data := .seq #[] }) := c.ext.trans (l1.trans l2)
  have aS : a ≠ s.heap.objs.size + 1 := fun q => by obtain ⟨o, ho, _⟩ := hl'; exact absurd (Heap.lt_size ho) (by rw [q]; exact Nat.not_lt.mpr (Nat.le_succ _))
  refine wpAny_pure ⟨plainId_quiet PySem.F.plain_min_loop _, min_startR (R₀ := R) W (fun i j => ltL (ls.getD i []) (ls.getD j [])) ?_ _ ?_ ?_ hne l3 ?_ (Heap.get?_push_size _ rfl) fun v h' tk hP hk => ?_⟩
  · intro i j vi vj s' Q E lR hi hj hQ
    obtain ⟨di, ei, ri⟩ := rs.get' (by simpa using hi : us[i]? = some vi)
    obtain ⟨dj, ej, rj⟩ := rs.get' (by simpa using hj : us[j]? = some vj)
    have gi : di = TSL.enc (ls.getD i []) := by
      rw [List.getElem?_map] at ei
      cases q : ls[i]? with
      | none => rw [q] at ei; cases ei
      | some x => rw [q] at ei; cases ei; simp [List.getD, q]
    have gj : dj = TSL.enc (ls.getD j []) := by
      rw [List.getElem?_map] at ej
      cases q : ls[j]? with
      | none => rw [q] at ej; cases ej
      | some x => rw [q] at ej; cases ej; simp [List.getD, q]
    subst gi gj
    replace ri := ri.list_inv
    obtain ⟨_, _, rfl, h1, r1⟩ := ri
    replace rj := rj.list_inv
    obtain ⟨_, _, rfl, h2, r2⟩ := rj
    exact rc_ltS (isList_mono lR h1) (isList_mono lR h2) r1.strs r2.strs (by have := in1_units A; have := room_units c.room 8; omega) hQ
  · intro hm
    simp only [List.mem_cons, List.not_mem_nil, or_false] at hm
    rcases hm with q | q
    · rw [e1] at q; exact absurd q (Nat.succ_ne_self _)
    · rw [e1] at q; exact aS q.symm
  · intro b o hb
    have := Heap.lt_size (c.ext b o hb)
    constructor
    · rw [List.mem_singleton]; exact Nat.ne_of_lt this
    · rw [e1]; exact Nat.ne_of_lt (Nat.lt_succ_of_lt this)
  · exact ⟨⟨_, l2 _ _ (Heap.get?_push_size _ rfl), rfl, rfl⟩, isList_mono (l1.trans l2) hl'⟩
  · generalize argBest (fun i j => ltL (ls.getD i []) (ls.getD j [])) (ls.length - 1) = ix at hP ⊢
    obtain ⟨d, ed, rd⟩ := rs.get' (by simpa using hP : us[ix]? = some v)
    have gd : d = TSL.enc (ls.getD ix []) := by
      rw [List.getElem?_map] at ed
      cases q : ls[ix]? with
      | none => rw [q] at ed; cases ed
      | some x => rw [q] at ed; cases ed; simp [List.getD, q]
    subst gd
    have lf : Le s.heap h' := fun b o hb => by
      have := Heap.lt_size hb
      exact hk b o (by rw [List.mem_singleton]; exact Nat.ne_of_lt this) (by rw [e1]; exact Nat.ne_of_lt (Nat.lt_succ_of_lt this)) (l2 _ _ (l1 _ _ hb))
    exact ⟨R, Mv.keep (t := tk) (d := s.drawn) c lf, rd⟩

theorem op_maxL {ls : List (List Str)} (hne : 0 < ls.length) : OpL w k (fun vs => call (.builtin "max") vs) [.list (ls.map TSL.enc)] (TSL.enc (ls.getD (argBest (fun i j => gtL (ls.getD i []) (ls.getD j [])) (ls.length - 1)) [])) := fun A R s vs c r => by
  replace r := r.cons_inv
  obtain ⟨_, _, rfl, r, n⟩ := r
  cases n
  replace r := r.list_inv
  obtain ⟨a, us, rfl, hl, rs⟩ := r
  have e := rs.length
  rw [List.length_map] at e
  have hl' := isList_mono c.ext hl
  have n := get_size s.heap
  have hname : (toString "max" ++ toString ".loop" : String) = "max.loop" := by decide
  refine PySem.call_function_tree PySem.F.kind_max PySem.F.plain_max PySem.F.entry_max (PySem.F.args_max1 _) ?_
  show wpAny _ A.in1 (Builtin.Builtins.bindParams "max" ["key", "default"] 0 ⟨[], []⟩ >>= _) _ _ s
  refine wpAny_bind (wpAny_of_eq (show Builtin.Builtins.bindParams "max" ["key", "default"] 0 ⟨[], []⟩ = pure [none, none] from rfl) ?_)
  refine wpAny_bind (wpAny_pure ?_)
  refine wpAny_bind (wpAny_pyIter_list hl' ?_)
  refine wpAny_bind (wpAny_newObj_type ?_)
  rw [hname]
  have neI : a ≠ s.heap.objs.size := fun q => by obtain ⟨o, ho, _⟩ := hl'; exact nomatch (q ▸ n).symm.trans ho
  have W := Walks.list (prog := PG) (w := w) (A := A.in1) (by exact c.room.h) s.heap.objs.size a neI us.toArray
  have eu : us.toArray.size = ls.length := by rw [List.size_toArray]; exact e
  rw [eu] at W
  have l1 : Le s.heap (s.heap.push { cls := .type "list_iterator", data := .fields #[.ref a, .int 0 0] }) := Le.push _ _
  have e1 : (s.heap.push { cls := .type "list_iterator", data := .fields #[.ref a, .int 0 0] }).objs.size = s.heap.objs.size + 1 := by rw [size_push']
  have l2 := Le.push (s.heap.push { cls := .type "list_iterator", data := .fields #[.ref a, .int 0 0] }) { cls := .type "list", data := .seq #[] }
  have l3 : Le R ((s.heap.push { cls := .type "list_iterator", data := .fields #[.ref a, .int 0 0] }).push { cls := .type "list", data := .seq #[] }) := c.ext.trans (l1.trans l2)
  have aS : a ≠ s.heap.objs.size + 1 := fun q => by obtain ⟨o, ho, _⟩ := hl'; exact absurd (Heap.lt_size ho) (by rw [q]; exact Nat.not_lt.mpr (Nat.le_succ _))
  refine wpAny_pure ⟨plainId_quiet PySem.F.plain_max_loop _, max_startR (R₀ := R) W (fun i j => gtL (ls.getD i []) (ls.getD j [])) ?_ _ ?_ ?_ hne l3 ?_ (Heap.get?_push_size _ rfl) fun v h' tk hP hk => ?_⟩
  · intro i j vi vj s' Q E lR hi hj hQ
    obtain ⟨di, ei, ri⟩ := rs.get' (by simpa using hi : us[i]? = some vi)
    obtain ⟨dj, ej, rj⟩ := rs.get' (by simpa using hj : us[j]? = some vj)
    have gi : di = TSL.enc (ls.getD i []) := by
      rw [List.getElem?_map] at ei
      cases q : ls[i]? with
      | none => rw [q] at ei; cases ei
      | some x => rw [q] at ei; cases ei; simp [List.getD, q]
    have gj : dj = TSL.enc (ls.getD j []) := by
      rw [List.getElem?_map] at ej
      cases q : ls[j]? with
      | none => rw [q] at ej; cases ej
      | some x => rw [q] at ej; cases ej; simp [List.getD, q]
    subst gi gj
    replace ri := ri.list_inv
    obtain ⟨_, _, rfl, h1, r1⟩ := ri
    replace rj := rj.list_inv
    obtain ⟨_, _, rfl, h2, r2⟩ := rj
    exact rc_gtS (isList_mono lR h1) (isList_mono lR h2) r1.strs r2.strs (by have := in1_units A; have := room_units c.room 8; omega) hQ
  · intro hm
    simp only [List.mem_cons, List.not_mem_nil, or_false] at hm
    rcases hm with q | q
    · rw [e1] at q; exact absurd q (Nat.succ_ne_self _)
    · rw [e1] at q; exact aS q.symm
  · intro b o hb
    have := Heap.lt_size (c.ext b o hb)
    constructor
    · rw [List.mem_singleton]; exact Nat.ne_of_lt this
    · rw [e1]; exact Nat.ne_of_lt (Nat.lt_succ_of_lt this)
  · exact ⟨⟨_, l2 _ _ (Heap.get?_push_size _ rfl), rfl, rfl⟩, isList_mono (l1.trans l2) hl'⟩
  · generalize argBest (fun i j => gtL (ls.getD i []) (ls.getD j [])) (ls.length - 1) = ix at hP ⊢
    obtain ⟨d, ed, rd⟩ := rs.get' (by simpa using hP : us[ix]? = some v)
    have gd : d = TSL.enc (ls.getD ix []) := by
      rw [List.getElem?_map] at ed
      cases q : ls[ix]? with
      | none => rw [q] at ed; cases ed
      | some x => rw [q] at ed; cases ed; simp [List.getD, q]
    subst gd
    have lf : Le s.heap h' := fun b o hb => by
      have := Heap.lt_size hb
      exact hk b o (by rw [List.mem_singleton]; exact Nat.ne_of_lt this) (by rw [e1]; exact Nat.ne_of_lt (Nat.lt_succ_of_lt this)) (l2 _ _ (l1 _ _ hb))
    exact ⟨R, Mv.keep (t := tk) (d := s.drawn) c lf, rd⟩
end
end Mine
end

noncomputable section
open PySem PySem.W PyProof.Rows PySem.SeqAt
namespace Mine
section
variable {w : World} {k : Nat} {A : Around} {R : Heap} {s : Shared}
/-- the same place, its frames not told -/
noncomputable def loose (A : Around) : Around := { A with frames := none }
theorem codeAny_loose {c : Code} {Q : Result → Shared → Prop} (h : codeAny (MM w) (loose A) c Q s) : codeAny (MM w) A c Q s := fun Γ p hc hb =>
  h Γ p hc ⟨hb.1, hb.2.1, fun _ q => (nomatch q), hb.2.2.2.1, hb.2.2.2.2⟩
/-- a contract's call leaves all that there is just as it is -/
theorem Contract.exact {f : Value} {args : List D} {d : D} (h : Contract w k f args d) {vs : List Value} {Q : Value → Shared → Prop} {E : Value → Shared → Prop} (hk4 : k ≤ 4) (rm : Room k A) (B : Base w (frs A) s.heap) (l : Le R s.heap) (r : RepL w R args vs)
    (hq : ∀ v R' s', Step s.heap R R' s s' → Le s.heap s'.heap → Le R' s'.heap → Rep w R' d v → Q v s') : wpAny (MM w) A (call f vs) Q E s :=
  wpAny_call (codeAny_loose (codeAny_mono (h (loose A) R s vs ⟨rm.d, rm.u, rm.h, fun q => absurd q (by omega)⟩ (fun _ q => (nomatch q)) { B with kp := fun _ _ _ q => (nomatch q) } l (fun _ q => (nomatch q)) r) fun r s' ⟨v, R', e, st, p, l', q⟩ => by
    subst e
    exact hq v R' s' st (fun b o e => (p b o e).1 (fun q => nomatch q)) l' q))
end
end Mine
end

noncomputable section
open PySem PySem.W PyProof.Rows PySem.SeqAt
namespace Mine
section
variable {w : World} {k : Nat} {A A' : Around} {sc : Scope} {F : FrS} {h₀ R R' R'' h h' : Heap} {σ σ' σ₁ σ₂ σ₃ : St} {s s' s'' : Shared} {fn : Prop} {wr wr' : List Addr} {fr tr : Bool} {e : Addr}

/-- an exception that the frame's names do not reach -/
structure ExcAt (h : Heap) (e : Addr) (wr : List Addr) (fr tr : Bool) : Prop where
  m : e ∈ wr
  x : ∃ oe vs, h.get? e = some oe ∧ oe.cls = .type "IndexError" ∧ oe.data = .fields vs ∧ 2 < vs.size ∧ (fr = true → vs[2]? = some .none) ∧
    ((tr = false ∧ vs[1]? = some .none) ∨ ∃ T oT ts, vs[1]? = some (.ref T) ∧ T ∈ wr ∧ T ≠ e ∧ h.get? T = some oT ∧ oT.data = .fields ts ∧ 3 < ts.size)

structure XAt (w : World) (A : Around) (sc : Scope) (F : FrS) (h₀ R : Heap) (s : Shared) (σ : St) (fr tr : Bool) (e : Addr) (wr : List Addr) (R' : Heap) (s' : Shared) : Prop where
  st : Step h₀ R R' s s'
  S : Sat w A sc F h₀ σ R' s'
  O : OffW A F h₀ wr
  Y : DynW sc F σ R' s'.heap wr
  x : ExcAt s'.heap e wr fr tr

theorem frs_eq (q : A'.frames = A.frames) : frs A' = frs A := by unfold frs; rw [q]
theorem OffW.around (O : OffW A F h₀ wr) (q : A'.frames = A.frames) : OffW A' F h₀ wr := ⟨O.h, O.l, O.c, fun a ha => by rw [frs_eq q]; exact O.p a ha⟩
theorem Sat.around (S : Sat w A sc F h₀ σ R s) (q : A'.frames = A.frames) : Sat w A' sc F h₀ σ R s where
  fr := fun envs e => S.fr envs (q ▸ e)
  base := by rw [frs_eq q]; exact S.base
  old := by rw [frs_eq q]; exact S.old
  ext := S.ext
  roff := by rw [frs_eq q]; exact S.roff
  lr := S.lr
  cells := { is := S.cells.is, r := S.cells.r, l := S.cells.l, p := by rw [frs_eq q]; exact S.cells.p, inj := S.cells.inj }
  has := S.has
  vars := let ⟨m, V⟩ := S.vars; ⟨m, V.ns, V.at_, fun x d a l i => let O := V.off x d a l i; ⟨O.h, O.r, O.l, O.c, by rw [frs_eq q]; exact O.p⟩, V.apart⟩
theorem XAt.around (X : XAt w A sc F h₀ R s σ fr tr e wr R' s') (q : A'.frames = A.frames) : XAt w A' sc F h₀ R s σ fr tr e wr R' s' :=
  ⟨X.st, X.S.around q, X.O.around q, X.Y, X.x⟩
theorem XAt.from (st : Step h₀ R R' s s') (X : XAt w A sc F h₀ R' s' σ fr tr e wr R'' s'') : XAt w A sc F h₀ R s σ fr tr e wr R'' s'' :=
  ⟨st.trans X.st, X.S, X.O, X.Y, X.x⟩

theorem only_nil_get (h : Heap) (b : Addr) : (only h fun _ => false).get? b = none := by rw [only_get]; rfl
theorem FR.fun_ : ∀ {l : List Env}, (∀ e ∈ l, FrameOk h e) → h.FunFrames (only h fun _ => false) l
  | [], _ => trivial
  | env :: l, x => by
    obtain ⟨k, f, o, es, ep, a, b, c⟩ := x env List.mem_cons_self
    exact ⟨k, ⟨f, o, a, only_nil_get _ _, b, fun vs q => by rw [c] at q; cases q⟩, FR.fun_ fun e he => x e (List.mem_cons_of_mem _ he)⟩

/-- what the machinery writes -/
theorem XAt.write (X : XAt w A sc F h₀ R s σ fr tr e wr R' s') (p : ∀ b o, b ∉ wr → s'.heap.get? b = some o → h'.get? b = some o) (lv : ∀ a ∈ wr, ∃ o, h'.get? a = some o) {fr' tr' : Bool} (x : ExcAt h' e wr fr' tr') :
    XAt w A sc F h₀ R s σ fr' tr' e wr R' { s' with heap := h' } := by
  obtain ⟨S₁, Y₁⟩ := X.S.growBut (t := s'.toks) (d := s'.drawn) X.O X.Y (.of p) (.refl _) (fun b o z => p b o (fun q => nomatch (X.Y.r b q).symm.trans z) (X.S.ext b o z)) fun b o z => .inl z
  exact ⟨X.st.trans .heap, S₁, X.O, Y₁ lv X.Y.r, x⟩

theorem upd_size {vs : Array Value} {i : Nat} {x : Value} : (vs.setIfInBounds i x).size = vs.size := by simp

/-- the flight's mark set -/
theorem X_flight {f : Option Addr} (X : XAt w A sc F h₀ R s σ fr tr e wr R' s') {Q : Unit → Shared → Prop} {E : Value → Shared → Prop} (h : ∀ s'', XAt w A sc F h₀ R s σ fr tr e wr R' s'' → Q () s'') : wpAny (MM w) A' (setFlight (.ref e) f) Q E s' := by
  obtain ⟨oe, vs, he, hc, hd, hz, hf, ht⟩ := X.x.x
  unfold setFlight
  rcases ht with ⟨e1, h1⟩ | ⟨T, oT, ts, h1, hm, hne, hT, hdT, hz3⟩
  · refine wpAny_bind (wpAny_field he hd h1 ?_)
    rw [if_neg (by decide)]
    exact wpAny_pure (h _ X)
  · refine wpAny_bind (wpAny_field he hd h1 ?_)
    rw [if_pos (show (Value.ref T != Value.none) = true from by simp)]
    refine wpAny_setField hT hdT hz3 (h _ ?_)
    have hd' := Obj.data_mapFields hdT (·.setIfInBounds 3 (f.elim .none fun f => rawInt f))
    have gT := Heap.get?_update_self (Obj.mapFields (·.setIfInBounds 3 (f.elim .none fun f => rawInt f))) hT (Obj.isFreed_of_fields hd')
    have other : ∀ b, b ≠ T → (s'.heap.update T (Obj.mapFields (·.setIfInBounds 3 (f.elim .none fun f => rawInt f)))).get? b = s'.heap.get? b := fun b hb => Heap.get?_update_other _ _ (Ne.symm hb)
    refine X.write (fun b o nb z => (other b fun q => nb (q ▸ hm)).trans z) (fun a ha => ?_) ⟨X.x.m, oe, vs, (other e (Ne.symm hne)).trans he, hc, hd, hz, hf, .inr ⟨T, _, _, h1, hm, hne, gT, hd', by rw [upd_size]; exact hz3⟩⟩
    by_cases q : a = T
    · subst q; exact ⟨_, gT⟩
    · obtain ⟨o, ho⟩ := X.Y.live a ha
      exact ⟨o, (other a q).trans ho⟩

/-- a new entry of the traceback -/
theorem X_entry {head : Value} {hadNext : Bool} {L : Addr} (X : XAt w A sc F h₀ R s σ fr tr e wr R' s') {outer : List Env} (top : A.frames = some (mkEnv sc F :: outer)) (hF : F.fr = some L) {Q : Unit → Shared → Prop} {E : Value → Shared → Prop}
    (h : ∀ wr' s'', XAt w A sc F h₀ R s σ fr true e wr' R' s'' → Q () s'') :
    wpAny (MM w) A (do let a ← frameOf (mkEnv sc F); let pl ← entryPlaceOf L hadNext; let b ← EntryCells.newEntry head a .none (rawInt L) .none pl; setField (.ref e) 1 b) Q E s' := by
  have hfun := FR.fun_ (X.S.fr _ top)
  refine wpAny_bind (wpAny_frameOf_fun top hfun hF fun h₁ hs₁ => ?_)
  have efr : (mkEnv sc F :: outer).filterMap (·.frame) = frs A := by unfold frs; rw [top]; rfl
  rw [efr] at hs₁
  refine wpAny_bind (wpAny_entryPlaceOf fun pl hpl => ?_)
  unfold EntryCells.newEntry newFields
  refine wpAny_bind (wpAny_newObj_type ?_ (hpl.sizeOk5 _ _ _ _ _))
  obtain ⟨oe, vs, he, hc, hd, hz, hf, ht⟩ := X.x.x
  have he₁ : h₁.get? e = some oe := (hs₁.2.1 e (X.O.p e X.x.m)).trans he
  have he₂ := Heap.get?_push_of_some (h := h₁) { cls := .type "traceback", dict := none, data := .fields ([head, .ref L, .none, rawInt L, .none] ++ (if pl.isEmpty then List.replicate 6 Value.none else pl)).toArray } he₁
  refine wpAny_setField he₂ hd (by omega) ?_
  have hTe : h₁.objs.size ≠ e := Nat.ne_of_gt (Heap.lt_size he₁)
  have hd₃ := Obj.data_mapFields hd (·.setIfInBounds 1 (Value.ref h₁.objs.size))
  have he₃ := Heap.get?_update_self (Obj.mapFields (·.setIfInBounds 1 (Value.ref h₁.objs.size))) he₂ (Obj.isFreed_of_fields hd₃)
  have hT₃ := (Heap.get?_update_other (h₁.push { cls := .type "traceback", dict := none, data := .fields ([head, .ref L, .none, rawInt L, .none] ++ (if pl.isEmpty then List.replicate 6 Value.none else pl)).toArray })
    (Obj.mapFields (·.setIfInBounds 1 (Value.ref h₁.objs.size))) (Ne.symm hTe)).trans (Heap.get?_push_size h₁ rfl)
  generalize eh₂ : ((h₁.push { cls := .type "traceback", dict := none, data := .fields ([head, .ref L, .none, rawInt L, .none] ++ (if pl.isEmpty then List.replicate 6 Value.none else pl)).toArray }).update e (Obj.mapFields (·.setIfInBounds 1 (Value.ref h₁.objs.size)))) = h₂ at he₃ hT₃
  have keep : ∀ b o, b ≠ e → h₁.get? b = some o → h₂.get? b = some o := fun b o hbe hb => by
    rw [← eh₂, Heap.get?_update_other _ _ (Ne.symm hbe)]
    exact Heap.get?_push_of_some _ hb
  have nT : s'.heap.get? h₁.objs.size = none := none_of fun o q => by
    obtain ⟨sl, q'⟩ := hs₁.2.2 _ _ q
    exact absurd (Heap.lt_size q') (Nat.lt_irrefl _)
  have pb : PresBut (frs A) wr s'.heap h₂ := fun b o nb q => by
    have nbe : b ≠ e := fun z => nb (z ▸ X.x.m)
    obtain ⟨sl, q'⟩ := hs₁.2.2 b o q
    exact ⟨fun np => keep b o nbe ((hs₁.2.1 b np).trans q), _, keep b _ nbe q', rfl⟩
  obtain ⟨S₁, own₁⟩ := X.S.growBut0 (t := s'.toks) (d := s'.drawn) X.O X.Y.own pb (.refl _) (fun b o q => by
    have nb : b ∉ wr := fun z => nomatch (X.Y.r b z).symm.trans q
    exact (pb b o nb (X.S.ext b o q)).1 fun z => nomatch (X.S.roff b z).symm.trans q) fun b o q => .inl q
  have offT := X.S.off_new nT
  have gt : ∀ b, b ∉ frs A → h₁.get? b = s'.heap.get? b := fun b nb => hs₁.2.1 b nb
  refine h (h₁.objs.size :: wr) { s' with heap := h₂ } ⟨X.st.trans .heap, S₁, ⟨?_, ?_, ?_, ?_⟩, ⟨?_, ?_, ?_⟩, ⟨List.mem_cons_of_mem _ X.x.m, _, _, he₃, (Obj.cls_mapFields _ _).trans hc, hd₃, by rw [upd_size]; exact hz, fun q => ?_, .inr ⟨h₁.objs.size, _, _, ?_, List.mem_cons_self, hTe, hT₃, rfl, ?_⟩⟩⟩
  · exact fun a ha => (List.mem_cons.mp ha).elim (fun q => q ▸ offT.h) (X.O.h a)
  · exact fun a ha => (List.mem_cons.mp ha).elim (fun q => q ▸ offT.l) (X.O.l a)
  · exact fun a ha => (List.mem_cons.mp ha).elim (fun q => q ▸ offT.c) (X.O.c a)
  · exact fun a ha => (List.mem_cons.mp ha).elim (fun q => q ▸ offT.p) (X.O.p a)
  · exact fun a ha => (List.mem_cons.mp ha).elim (fun q => q ▸ offT.r) (X.Y.r a)
  · intro a ha
    rcases List.mem_cons.mp ha with q | ha
    · exact q ▸ ⟨_, hT₃⟩
    · by_cases q : a = e
      · exact q ▸ ⟨_, he₃⟩
      · obtain ⟨o, ho⟩ := X.Y.live a ha
        exact ⟨o, keep a o q ((gt a (X.O.p a ha)).trans ho)⟩
  · intro a ha m x d hn hx hat
    rcases List.mem_cons.mp ha with q | ha
    · subst q
      obtain ⟨m₁, V₁⟩ := S₁.vars
      have := V₁.inj hn rfl; subst this
      obtain ⟨v, i, ok⟩ := V₁.at_ x _ hx
      have := At.inj i hat; subst this
      obtain ⟨m₀, V₀⟩ := X.S.vars
      obtain ⟨v₀, i₀, ok₀⟩ := V₀.at_ x _ hx
      have nsL : h₂.Ns F.L m₀ := by
        obtain ⟨o, es, ep, a, b, c⟩ := V₀.ns
        obtain ⟨_, o', e', d'⟩ := pb _ o (fun q => X.O.l _ q rfl) a
        exact ⟨o', es, ep, e', d'.trans b, c⟩
      have := ns_inj V₁.ns nsL; subst this
      have i₀' : At sc F h₂ m x v₀ := At.fwd (fun y c v e ⟨o, ho, hd⟩ => by
        obtain ⟨_, o', e', d'⟩ := pb c o (fun q => X.O.c c q y c e rfl) ho
        exact ⟨o', e', d'.trans hd⟩) i₀
      have := At.inj i₀' i; subst this
      cases ok₀ with
      | own o => obtain ⟨o, ho⟩ := o.isSome; exact nomatch nT.symm.trans ho
    · exact own₁ a ha m x d hn hx hat
  · rw [Array.getElem?_setIfInBounds_ne (by decide)]; exact hf q
  · have : 1 < vs.size := by omega
    simp [this]
  · simp only [List.size_toArray, List.length_append, List.length_cons, List.length_nil]; omega

/-- the frame noted in the traceback -/
theorem X_note (X : XAt w A sc F h₀ R s σ fr tr e wr R' s') {outer : List Env} (top : A.frames = some (mkEnv sc F :: outer)) {Q : Unit → Shared → Prop} {E : Value → Shared → Prop}
    (h : ∀ wr' s'', XAt w A sc F h₀ R s σ fr true e wr' R' s'' → Q () s'') : wpAny (MM w) A (noteFrame (.ref e) (mkEnv sc F)) Q E s' := by
  obtain ⟨_, L, _, _, _, hF, _⟩ := X.S.fr _ top _ List.mem_cons_self
  have hF : F.fr = some L := hF
  obtain ⟨oe, vs, he, hc, hd, hz, hf, ht⟩ := X.x.x
  unfold noteFrame
  have hF' : (mkEnv sc F).frame = some L := hF
  simp only [hF']
  rcases ht with ⟨e1, h1⟩ | ⟨T, oT, ts, h1, hm, hne, hT, hdT, hz3⟩
  · refine wpAny_bind (wpAny_field he hd h1 ?_)
    rw [if_neg (by decide)]
    exact X_entry X top hF h
  · refine wpAny_bind (wpAny_field he hd h1 ?_)
    rw [if_pos (show (Value.ref T != Value.none) = true from by simp)]
    have h3 : ts[3]? = some ts[3] := by simp [hz3]
    refine wpAny_bind (wpAny_field hT hdT h3 ?_)
    split
    · exact wpAny_pure (h wr _ ⟨X.st, X.S, X.O, X.Y, X.x.m, oe, vs, he, hc, hd, hz, hf, .inr ⟨T, oT, ts, h1, hm, hne, hT, hdT, hz3⟩⟩)
    · refine wpAny_bind (wpAny_setField hT hdT hz3 ?_)
      have hd' := Obj.data_mapFields hdT (·.setIfInBounds 3 Value.none)
      have gT := Heap.get?_update_self (Obj.mapFields (·.setIfInBounds 3 Value.none)) hT (Obj.isFreed_of_fields hd')
      have other : ∀ b, b ≠ T → (s'.heap.update T (Obj.mapFields (·.setIfInBounds 3 Value.none))).get? b = s'.heap.get? b := fun b hb => Heap.get?_update_other _ _ (Ne.symm hb)
      refine X_entry (X.write (tr' := tr) (fun b o nb z => (other b fun q => nb (q ▸ hm)).trans z) (fun a ha => ?_) ⟨X.x.m, oe, vs, (other e (Ne.symm hne)).trans he, hc, hd, hz, hf, .inr ⟨T, _, _, h1, hm, hne, gT, hd', by rw [upd_size]; exact hz3⟩⟩) top hF h
      by_cases q : a = T
      · subst q; exact ⟨_, gT⟩
      · obtain ⟨o, ho⟩ := X.Y.live a ha
        exact ⟨o, (other a q).trans ho⟩

theorem X_cameBack (X : XAt w A sc F h₀ R s σ fr true e wr R' s') {E : Value → Shared → Prop} (h : ∀ s'', XAt w A sc F h₀ R s σ fr true e wr R' s'' → E (.ref e) s'') : cameBackBy (MM w) A' (mkEnv sc F) E (.ref e) s' := by
  obtain ⟨oe, vs, he, hc, hd, hz, hf, ht⟩ := X.x.x
  rcases ht with ⟨e1, _⟩ | ⟨T, oT, ts, h1, hm, hne, hT, hdT, hz3⟩
  · cases e1
  · unfold cameBackBy
    refine wpAny_bind (wpAny_field he hd h1 ?_)
    rw [if_neg (show ¬ (Value.ref T == Value.none) = true from by simp)]
    exact X_flight X h
theorem X_passOn {α : Type} {what : String} (X : XAt w A sc F h₀ R s σ fr true e wr R' s') {Q : α → Shared → Prop} {E : Value → Shared → Prop} (h : ∀ s'', XAt w A sc F h₀ R s σ fr true e wr R' s'' → E (.ref e) s'') : wpAny (MM w) A' (_root_.PySem.passOn what (.ref e) (mkEnv sc F)) Q E s' := by
  obtain ⟨oe, vs, he, hc, hd, hz, hf, ht⟩ := X.x.x
  rcases ht with ⟨e1, _⟩ | ⟨T, oT, ts, h1, hm, hne, hT, hdT, hz3⟩
  · cases e1
  · unfold _root_.PySem.passOn
    refine wpAny_bind (wpAny_field he hd h1 ?_)
    rw [if_neg (show ¬ (Value.ref T == Value.none) = true from by simp)]
    refine wpAny_bind (X_flight X fun s'' X'' => wpAny_throw (h s'' X''))
end
end Mine
end

noncomputable section
open PySem PySem.W PyProof.Rows PySem.SeqAt
namespace Mine
section
variable {w : World} {k : Nat} {A A' : Around} {sc : Scope} {F : FrS} {h₀ R R' R'' h h' : Heap} {σ σ' σ₁ σ₂ σ₃ : St} {s s' s'' : Shared} {fn : Prop} {wr wr' : List Addr} {fr tr : Bool} {e : Addr}

theorem entry_unchain : entryFor table "proto.unchain" = some Builtin.«proto.unchain» := entryFor_of_fast (by kernel_rfl)

/-- no exception is at work, or one without a context -/
noncomputable def Handles (A : Around) (h : Heap) (b : Bool) : Prop := A.handled = none ∨ b = false ∧ ∃ e oe vs, A.handled = some (.ref e) ∧ h.get? e = some oe ∧ oe.data = .fields vs ∧ vs[2]? = some .none

structure NewX (h h' : Heap) (e : Addr) (b : Bool) : Prop where
  keeps : ∀ b o, h.get? b = some o → h'.get? b = some o
  new : h.get? e = none
  there : ∃ ob vs, h'.get? e = some ob ∧ ob.cls = .type "IndexError" ∧ ob.data = .fields vs ∧ 2 < vs.size ∧ vs[1]? = some .none ∧ (b = true → vs[2]? = some .none)

theorem unchain_none {value : Value} {e : Addr} {oe : Obj} {vs : Array Value} {Q : Value → Shared → Prop} {E : Value → Shared → Prop} (he : s.heap.get? e = some oe) (hd : oe.data = .fields vs) (h2 : vs[2]? = some .none) (h : Q .none s) :
    wpAny (MM w) A (runValue (.builtin "proto.unchain" ⟨[value, .ref e, .ref e, .bool false], []⟩)) Q E s := by
  refine wpAny_runValue (codeAny_builtin entry_unchain ?_)
  unfold Builtin.«proto.unchain»
  dsimp only
  refine wpAny_bind (wpAny_field he hd h2 ?_)
  rw [if_pos (by decide)]
  show wpAny _ _ (pure (Fin.done (.ret .none)) >>= fun r => pure r) _ _ s
  exact wpAny_bind (wpAny_pure (wpAny_pure h))

theorem raiseNew_any {α : Type} {e : Addr} {oe : Obj} {vs : Array Value} {Q : α → Shared → Prop} {E : Value → Shared → Prop} (hh : A.handled = none ∨ ∃ e' oe' vs', A.handled = some (.ref e') ∧ e' ≠ e ∧ s.heap.get? e' = some oe' ∧ oe'.data = .fields vs' ∧ vs'[2]? = some .none)
    (he : s.heap.get? e = some oe) (hd : oe.data = .fields vs) (hz : 2 < vs.size)
    (h0 : E (.ref e) s) (h1 : ∀ h', (∀ b, b ≠ e → h'.get? b = s.heap.get? b) → (∃ oe' x, h'.get? e = some oe' ∧ oe'.cls = oe.cls ∧ oe'.data = .fields (vs.setIfInBounds 2 x)) → E (.ref e) { s with heap := h' }) :
    wpAny (MM w) A (raiseNew (.ref e) : Sem α) Q E s := by
  unfold raiseNew
  refine wpAny_bind (wpAny_handled ?_)
  rcases hh with hh | ⟨e', oe', vs', hh, hne, he', hd', h2⟩
  · rw [hh]
    exact wpAny_bind (wpAny_pure (wpAny_throw h0))
  · rw [hh]
    dsimp only
    rw [if_pos (by simpa using hne)]
    refine wpAny_bind (wpAny_holding (unchain_none he' hd' h2 ?_))
    have hu : ∀ {P : Unit → Shared → Prop}, P () { s with heap := s.heap.update e (Obj.mapFields (·.setIfInBounds 2 (Value.ref e'))) } → wpAny (MM w) A (updateField e 2 (.ref e')) P E s := fun {P} hp => by
      unfold updateField
      refine wpAny_bind (wpAny_load he ?_)
      rw [hd]
      show wpAny _ _ (if 2 < vs.size then _ else _) _ _ _
      rw [if_pos hz]
      exact wpAny_update he hp
    have hd2 := Obj.data_mapFields hd (·.setIfInBounds 2 (Value.ref e'))
    refine wpAny_bind (hu (wpAny_throw (h1 _ (fun b hb => Heap.get?_update_other _ _ (Ne.symm hb)) ⟨_, .ref e', Heap.get?_update_self _ he (Obj.isFreed_of_fields hd2), Obj.cls_mapFields _ _, hd2⟩)))

theorem raise_words {α : Type} {msg : String} {Q : α → Shared → Prop} {E : Value → Shared → Prop} {b : Bool} (hh : Handles A s.heap b) (h : ∀ h' tk e, NewX s.heap h' e b → E (.ref e) { s with heap := h', toks := tk }) :
    wpAny (MM w) A (raiseErrorWords "IndexError" msg : Sem α) Q E s := by
  unfold raiseErrorWords
  refine wpAny_bind (wpAny_mkText (wpAny_bind ?_))
  refine wpAny_newExc_plain plainExc_IndexError fun h' e m => ?_
  obtain ⟨t, g, nt, gt⟩ := m.there
  rcases hh with hh | ⟨rfl, e', oe', vs', hh, a2, a3, a4⟩
  · exact wpAny_raiseNew_none hh (h _ _ _ ⟨m.keeps, m.new, _, _, g, rfl, rfl, by simp, rfl, fun _ => rfl⟩)
  refine raiseNew_any (.inr ⟨e', oe', vs', hh, fun q => (nomatch (q ▸ a2).symm.trans m.new), m.keeps _ _ a2, a3, a4⟩) g rfl (by simp) (h _ _ _ ⟨m.keeps, m.new, _, _, g, rfl, rfl, by simp, rfl, fun _ => rfl⟩) fun h'' ho hs => ?_
  obtain ⟨oe', x, g', c', d'⟩ := hs
  exact h _ _ _ ⟨fun b o q => (ho b fun z => nomatch (z ▸ q).symm.trans m.new).trans (m.keeps b o q), m.new, _, _, g', c', d', by simp, by simp, fun q => by cases q⟩

theorem getItem_out {l : Addr} {items : Array Value} {i : Int} {j : Nat} {t : Tok} {Q : Value → Shared → Prop} {E : Value → Shared → Prop} (hij : i = j) {b : Bool} (hh : Handles A.in1 s.heap b) (hl : s.heap.IsList l items)
    (hout : items.size ≤ j) (hhi : i < 2 ^ 63) (hE : ∀ h' tk e, NewX s.heap h' e b → E (.ref e) { s with heap := h', toks := tk }) :
    wpAny (MM w) A (getItem (.ref l) (.int i t)) Q E s := by
  obtain ⟨o, ho, hc, ne, hd⟩ := id hl
  unfold getItem
  try with_reducible refine wpAny_holding ?_
  first | refine wpAny_bind (wpAny_pure ?_) | skip
  refine wpAny_bind (wpAny_sequenceKey hl.typeIs (by decide) ?_)
  refine wpAny_bind (wpAny_callSpecial?_slot (name := Str.ofString "__getitem__") hl.typeIs slot_list_getitem
    (wpAny_call_entry slot_list_getitem hl.typeIs entry_list_getitem ?_ (args_list_getitem _ _)))
  show wpAny _ _ (Builtin.List.listSubscript? (.int i t) >>= _) _ _ s
  refine wpAny_bind (wpAny_listSubscript_int (fitsIndex_both (by omega) hhi) ?_)
  clear hhi
  subst hij
  have hx : items[j]? = none := Array.getElem?_eq_none hout
  show wpAny _ _ ((seqItemAt l j >>= fun r => pure (r.map (j, ·))) >>= _) _ _ s
  refine wpAny_bind (wpAny_bind (wpAny_seqItemAt ho hd (wpAny_pure ?_)))
  rw [hx]
  first
    | exact wpAny_bind (wpAny_rule (raise_words hh hE))
    | exact wpAny_bind (wpAny_rule (wpAny_bind (raise_words hh hE)))
    | exact wpAny_bind (wpAny_bind (wpAny_rule (raise_words hh hE)))
    | exact wpAny_rule (raise_words hh hE)

/-- a new exception, seen from the frame -/
theorem Sat.raised (S : Sat w A sc F h₀ σ R s) {tk : Nat} {b : Bool} (x : NewX s.heap h' e b) : XAt w A sc F h₀ R s σ b false e [e] R { s with heap := h', toks := tk } := by
  have n := x.new
  have S' := S.keep (t := tk) (d := s.drawn) x.keeps
  obtain ⟨ob, vs, a, b, c, d, f, g⟩ := x.there
  exact ⟨.heap, S', offW_new S n, dynW_new S x.keeps n ⟨_, a⟩, ⟨List.mem_singleton.mpr rfl, ⟨ob, vs, a, b, c, d, g, .inl ⟨rfl, f⟩⟩⟩⟩
end
end Mine
end

noncomputable section
open PySem PySem.W PyProof.Rows PySem.SeqAt
namespace Mine
section
variable {w : World} {k : Nat} {A A' : Around} {sc : Scope} {F : FrS} {h₀ R R' R'' h h' : Heap} {σ σ' σ₁ σ₂ σ₃ : St} {s s' s'' : Shared} {fn : Prop} {wr wr' : List Addr} {fr tr : Bool} {e : Addr}

/-- what stands when an exception is on its way -/
noncomputable def XP (w : World) (A : Around) (sc : Scope) (F : FrS) (h₀ R : Heap) (s : Shared) (σ : St) (x : Value) (s' : Shared) : Prop := ∃ fr tr e wr R', x = .ref e ∧ XAt w A sc F h₀ R s σ fr tr e wr R' s'
theorem XP.from {x : Value} (st : Step h₀ R R' s s') (X : XP w A sc F h₀ R' s' σ x s'') : XP w A sc F h₀ R s σ x s'' := by
  obtain ⟨fr, tr, e, wr, R', rfl, X⟩ := X
  exact ⟨fr, tr, e, wr, R', rfl, X.from st⟩

/-- a statement raises -/
noncomputable def ExR (w : World) (k : Nat) (sc : Scope) (σ : St) (st : Stmt) (σ' : St) : Prop :=
  ∀ A F h₀ R s, F.fn.isSome = true → Fresh F h₀ → Room k A → Top k A (mkEnv sc F) → Sat w A sc F h₀ σ R s → wpAny (MM w) A (exec st (mkEnv sc F)) (fun _ _ => False) (XP w A sc F h₀ R s σ') s
noncomputable def ExsR (w : World) (k : Nat) (sc : Scope) (σ : St) (sts : List Stmt) (σ' : St) : Prop :=
  ∀ A F h₀ R s, F.fn.isSome = true → Fresh F h₀ → Room k A → Top k A (mkEnv sc F) → Sat w A sc F h₀ σ R s → wpAny (MM w) A (execs sts (mkEnv sc F)) (fun _ _ => False) (XP w A sc F h₀ R s σ') s

theorem load_fz {A' : Around} {x : Str} {d : D} {p : Pos} {Q : Value → Shared → Prop} {E : Value → Shared → Prop} (S : Sat w A sc F h₀ σ R s) (q : σ.lookup x = some (.fz d)) (hk : sc.kind = .function) (hd : (x == ("__debug__" : Str)) = false) (hc : (x == ("__classdict__" : Str)) = false)
    (h : ∀ v, Rep w R d v → Q v s) : wpAny (MM w) A' (eval (.Name x p) (mkEnv sc F)) Q E s := by
  obtain ⟨m, V⟩ := S.vars
  obtain ⟨v, a, ok⟩ := V.at_ x _ q
  cases ok with
  | fz r => exact wpAny_Name (load_any hk a V.ns hc (h v r)) hd

/-- name[name] lies beyond the list -/
theorem item_out {A' : Around} {y z : Str} {p1 p2 p3 : Pos} {ds : List D} {i : Int} {b : Bool} {Q : Value → Shared → Prop} {E : Value → Shared → Prop} (S : Sat w A sc F h₀ σ R s) (hh : Handles A' s.heap b)
    (qy : σ.lookup y = some (.fz (.list ds))) (qz : σ.lookup z = some (.fz (.int i))) (hi : i = ds.length) (hz : ds.length ≤ sizeLine) (hk : sc.kind = .function)
    (hn : ((y == ("__debug__" : Str)) = false ∧ (y == ("__classdict__" : Str)) = false) ∧ ((z == ("__debug__" : Str)) = false ∧ (z == ("__classdict__" : Str)) = false))
    (h : ∀ h' tk e, XAt w A sc F h₀ R s σ b false e [e] R { s with heap := h', toks := tk } → E (.ref e) { s with heap := h', toks := tk }) : wpAny (MM w) A' (eval (.Subscript (.Name y p1) (.Name z p2) p3) (mkEnv sc F)) Q E s := by
  refine Subscript_ (load_fz S qy hk hn.1.1 hn.1.2 fun va ra => load_fz S qz hk hn.2.1 hn.2.2 fun vb rb => ?_)
  replace ra := ra.list_inv
  obtain ⟨a, vs, rfl, hl, rs⟩ := ra
  replace rb := rb.int_inv
  obtain ⟨t, rfl⟩ := rb
  have hl' := isList_mono S.ext hl
  refine tail_any hl'.typeIs slot_list_getitem.lookup (getItem_out hi hh hl' (by rw [List.size_toArray, rs.length]; exact Nat.le_refl _) (by simp only [sizeLine] at hz; omega) fun h' tk e n => h h' tk e (S.raised n)) (by rfl)

/-- name[name] of a list of texts -/
theorem item_str {A' : Around} {y z : Str} {p1 p2 p3 : Pos} {xs : List Str} {i : Int} {j : Nat} {x : Str} {Q : Value → Shared → Prop} {E : Value → Shared → Prop} (S : Sat w A sc F h₀ σ R s)
    (qy : σ.lookup y = some (.fz (.list (xs.map .str)))) (qz : σ.lookup z = some (.fz (.int i))) (hi : i = j) (hx : xs[j]? = some x) (hz : xs.length ≤ sizeLine) (hk : sc.kind = .function)
    (hn : ((y == ("__debug__" : Str)) = false ∧ (y == ("__classdict__" : Str)) = false) ∧ ((z == ("__debug__" : Str)) = false ∧ (z == ("__classdict__" : Str)) = false))
    (h : ∀ t, Q (.str x t) s) : wpAny (MM w) A' (eval (.Subscript (.Name y p1) (.Name z p2) p3) (mkEnv sc F)) Q E s := by
  refine Subscript_ (load_fz S qy hk hn.1.1 hn.1.2 fun va ra => load_fz S qz hk hn.2.1 hn.2.2 fun vb rb => ?_)
  replace ra := ra.list_inv
  obtain ⟨a, vs, rfl, hl, rs⟩ := ra
  replace rb := rb.int_inv
  obtain ⟨t, rfl⟩ := rb
  have hl' := isList_mono S.ext hl
  obtain ⟨v, hv, r⟩ := rs.get (i := j) (d := .str x) (by rw [List.getElem?_map, hx]; rfl)
  have hlt := (List.getElem?_eq_some_iff.mp hx).1
  replace r := r.str_inv
  obtain ⟨tx, rfl⟩ := r
  refine tail_any hl'.typeIs slot_list_getitem.lookup (wpAny_getItem_list (x := .str x tx) hl' (by omega) (by simp only [sizeLine] at hz; omega) (by rw [hi]; simpa using hv) (h tx)) (by rfl)

noncomputable abbrev Nm (x : Str) : Prop := (x == ("__debug__" : Str)) = false ∧ (x == ("__classdict__" : Str)) = false

/-- while name[name] == name: where the item is not this -/
theorem while_no {A' : Around} {y z u : Str} {p1 p2 p3 p4 p5 pos : Pos} {body : List Stmt} {xs : List Str} {i : Int} {j : Nat} {x t : Str} {Q : Flow → Shared → Prop} {E : Value → Shared → Prop} (S : Sat w A sc F h₀ σ R s)
    (qy : σ.lookup y = some (.fz (.list (xs.map .str)))) (qz : σ.lookup z = some (.fz (.int i))) (hi : i = j) (hx : xs[j]? = some x) (hz : xs.length ≤ sizeLine) (qu : σ.lookup u = some (.fz (.str t))) (hne : (x == t) = false) (hk : sc.kind = .function)
    (hn : Nm y ∧ Nm z ∧ Nm u) (hm : behindInMarks .Eq (.Name u p4) = false)
    (h : Q .next s) : wpAny (MM w) A' (exec (.While (.Compare (.Subscript (.Name y p1) (.Name z p2) p3) [.Eq] [.Name u p4] p5) body [] pos) (mkEnv sc F)) Q E s := by
  refine wpAny_While (codeAny_whileLoop (fun _ s' => s' = s) ?_ 0 rfl)
  rintro _ _ rfl
  refine wpAny_isTrue_Compare1 (item_str S qy qz hi hx hz hk ⟨hn.1, hn.2.1⟩ fun t1 => load_fz S qu hk hn.2.2.1 hn.2.2.2 fun v r => ?_) hm
  replace r := r.str_inv
  obtain ⟨t2, rfl⟩ := r
  refine PyProof.Rows.eq_str (wpAny_truthy_bool ?_)
  rw [hne, if_neg (by decide)]
  exact wpAny_execs_nil h

/-- while name[name] == name: where there is no item -/
theorem while_out {A' : Around} {y z u : Str} {p1 p2 p3 p4 p5 pos : Pos} {body : List Stmt} {ds : List D} {i : Int} {b : Bool} {Q : Flow → Shared → Prop} {E : Value → Shared → Prop} (S : Sat w A sc F h₀ σ R s) (hfr : A'.frames = A.frames) {outer : List Env} (top : A.frames = some (mkEnv sc F :: outer)) (hh : Handles A' s.heap b)
    (qy : σ.lookup y = some (.fz (.list ds))) (qz : σ.lookup z = some (.fz (.int i))) (hi : i = ds.length) (hz : ds.length ≤ sizeLine) (hk : sc.kind = .function)
    (hn : Nm y ∧ Nm z) (hm : behindInMarks .Eq (.Name u p4) = false)
    (h : ∀ e wr s', XAt w A sc F h₀ R s σ b true e wr R s' → E (.ref e) s') : wpAny (MM w) A' (exec (.While (.Compare (.Subscript (.Name y p1) (.Name z p2) p3) [.Eq] [.Name u p4] p5) body [] pos) (mkEnv sc F)) Q E s := by
  refine wpAny_While (codeAny_whileLoop (fun _ s' => s' = s) ?_ 0 rfl)
  rintro _ _ rfl
  refine wpAny_isTrue_Compare1 (item_out S hh qy qz hi hz hk hn fun h' tk e X => ?_) hm
  refine X_note (X.around hfr) (hfr.trans top) fun wr' s'' X' => ?_
  exact X_cameBack X' fun s₃ X₃ => h e wr' s₃ (X₃.around hfr.symm)

/-- an iterator's place, walked from another around -/
theorem run_lockedM {α : Type} {A' : Around} {t : Sem α} {K : Heap → α → Prop} (S : Sat w A sc F h₀ σ R s) (O : OffW A F h₀ wr) (Y : DynW sc F σ R s.heap wr)
    (h : Sat w A sc F (lock h₀ s.heap (fun b => decide (b ∈ wr))) σ R s → wpAny (MM w) A' t (fun v s' => ∃ R', Step (lock h₀ s.heap (fun b => decide (b ∈ wr))) R R' s s' ∧ Sat w A sc F (lock h₀ s.heap (fun b => decide (b ∈ wr))) σ' R' s' ∧ K R' v) (fun _ _ => False) s) :
    wpAny (MM w) A' t (fun v s' => ∃ R', Step h₀ R R' s s' ∧ Sat w A sc F h₀ σ' R' s' ∧ DynW sc F σ' R' s'.heap wr ∧ (∀ b ∈ wr, ∀ o, s.heap.get? b = some o → s'.heap.get? b = some o) ∧ K R' v) (fun _ _ => False) s := by
  have S₀ := S.lock (fun b => decide (b ∈ wr)) fun a ha => by
    have ha : a ∈ wr := of_decide_eq_true ha
    exact Y.own a ha
  refine wpAny_mono (h S₀) ?_ fun _ _ e => e
  rintro v s' ⟨R', st, S', q⟩
  have lk : ∀ b ∈ wr, ∃ o, (lock h₀ s.heap (fun b => decide (b ∈ wr))).get? b = some o := fun b hb => let ⟨o, ho⟩ := Y.live b hb; ⟨o, lock_self (decide_eq_true hb) ho⟩
  refine ⟨R', st.unlock (P := frs A) (lock_pres S.old _), S'.unlock S.base (lock_pres S.old _), ⟨fun a ha => none_of fun o e => ?_, fun a ha => ?_, fun a ha m x d hn hx hat => ?_⟩, fun b hb o e => ?_, q⟩
  · rcases st.new a o e with e | e
    · exact nomatch (Y.r a ha).symm.trans e
    · obtain ⟨o', ho'⟩ := lk a ha; exact nomatch e.symm.trans ho'
  · obtain ⟨o, ho⟩ := lk a ha
    obtain ⟨_, o', e', _⟩ := S'.old a o ho; exact ⟨o', e'⟩
  · obtain ⟨m', V⟩ := S'.vars
    have := V.inj hn rfl; subst this
    obtain ⟨o, ho⟩ := lk a ha
    exact nomatch (V.off x d a hx hat).h.symm.trans ho
  · exact (S'.old b o (lock_self (decide_eq_true hb) e)).1 (O.p b hb)

/-- name += 1, whatever is at work -/
theorem aug1 {A' : Around} {x : Str} {p p2 pos : Pos} {kd : Nat} {i : Int} (S : Sat w A sc F h₀ σ R s) (lh : Fresh F h₀) (q : σ.lookup x = some (.fz (.int i))) (hx : sc.names.lookup x = some .local) (hk : sc.kind = .function) :
    wpAny (MM w) A' (exec (.AugAssign (.Name x p) .Add (.Constant (.int 1) kd p2) pos) (mkEnv sc F)) (fun v s' => ∃ R', Step h₀ R R' s s' ∧ Sat w A sc F h₀ (put σ x (.fz (.int (i + 1)))) R' s' ∧ v = .next) (fun _ _ => False) s := by
  obtain ⟨m, V⟩ := S.vars
  obtain ⟨v, a, ok⟩ := V.at_ x _ q
  cases ok with
  | fz r =>
    have a' : m x = some v := by
      rcases a with ⟨k', e⟩ | ⟨k', e, i⟩ | ⟨k', e, i⟩
      · exact e
      · exact nomatch hx.symm.trans k'
      · exact nomatch hx.symm.trans k'
    replace r := r.int_inv
    obtain ⟨t, rfl⟩ := r
    refine wpAny_AugAssign_Name (wpAny_loadName_local hk hx V.ns a' (wpAny_Constant_int (PyProof.Rows.iadd_int ?_)))
    have S' := S.tok (s.toks + 1 + 1)
    obtain ⟨m', V'⟩ := S'.vars
    refine wpAny_storeName_local hx V'.ns (fun h' hn hs => ⟨R, .heap (t := s.toks + 1 + 1 + 1), S'.storeL (t := s.toks + 1 + 1 + 1) lh.L hx V'.ns hn hs (.fz (.int _ _)) (fun d a e => by cases e), rfl⟩)
      (by show (sc.kind == .class || (sc.kind == .module && F.L != mainGlobals)) = false; rw [hk]; rfl)
end
end Mine
end

noncomputable section
open PySem PySem.W PyProof.Rows PySem.SeqAt
namespace Mine
section
variable {w : World} {k : Nat} {A A' : Around} {sc : Scope} {F : FrS} {h₀ R R' R'' h h' : Heap} {σ σ' σ₁ σ₂ σ₃ : St} {s s' s'' : Shared} {fn : Prop} {wr wr' : List Addr} {fr tr : Bool} {e : Addr}

theorem Ex.t {st : Stmt} {f : Fl} (h : Ex w k sc σ st f σ') : ExT w k sc σ st f σ' := fun A F h₀ R s hf lh rm _ S => h A F h₀ R s hf lh rm S
theorem Exs.t {sts : List Stmt} {f : Fl} (h : Exs w k sc σ sts f σ') : ExsT w k sc σ sts f σ' := fun A F h₀ R s hf lh rm _ S => h A F h₀ R s hf lh rm S
theorem exsT_cons {st : Stmt} {rest : List Stmt} {f : Fl} (h : ExT w k sc σ st .next σ₁) (hr : ExsT w k sc σ₁ rest f σ') : ExsT w k sc σ (st :: rest) f σ' := fun A F h₀ R s hf lh rm tp S =>
  wpAny_execs_cons (wpAny_mono (h A F h₀ R s hf lh rm tp S) (fun fl s' ⟨R', st, S', q⟩ => by cases q; exact wp_from st (hr A F h₀ R' s' hf lh rm tp S')) fun _ _ e => e)
theorem exsT_stop {st : Stmt} {rest : List Stmt} {f : Fl} (h : ExT w k sc σ st f σ') (hf : f ≠ .next) : ExsT w k sc σ (st :: rest) f σ' := fun A F h₀ R s hfn lh rm tp S =>
  wpAny_execs_cons (wpAny_mono (h A F h₀ R s hfn lh rm tp S) (fun fl s' ⟨R', st, S', q⟩ => by
    cases q with
    | next => exact (hf rfl).elim
    | brk => exact ⟨R', st, S', .brk⟩
    | cont => exact ⟨R', st, S', .cont⟩
    | ret r => exact ⟨R', st, S', .ret r⟩) fun _ _ e => e)
theorem exsR_cons {st : Stmt} {rest : List Stmt} (h : ExT w k sc σ st .next σ₁) (hr : ExsR w k sc σ₁ rest σ') : ExsR w k sc σ (st :: rest) σ' := fun A F h₀ R s hf lh rm tp S =>
  wpAny_execs_cons (wpAny_mono (h A F h₀ R s hf lh rm tp S) (fun fl s' ⟨R', st, S', q⟩ => by cases q; exact wpAny_mono (hr A F h₀ R' s' hf lh rm tp S') (fun _ _ e => e) fun _ _ x => x.from st) fun _ _ e => e.elim)
theorem exsR_stop {st : Stmt} {rest : List Stmt} (h : ExR w k sc σ st σ') : ExsR w k sc σ (st :: rest) σ' := fun A F h₀ R s hfn lh rm tp S =>
  wpAny_execs_cons (wpAny_mono (h A F h₀ R s hfn lh rm tp S) (fun fl s' e => e.elim) fun _ _ x => x)
theorem exR_if {t : PySem.Expr} {body orelse : List Stmt} {pos : Pos} {b : Bool} (ht : Tr w k sc σ t b σ₁) (hb : b = true → ExsR w k sc σ₁ body σ') (he : b = false → ExsR w k sc σ₁ orelse σ') : ExR w k sc σ (.If t body orelse pos) σ' := fun A F h₀ R s hf lh rm tp S =>
  wpAny_If (wp_then (ht A F h₀ R s rm S) fun c R₁ s₁ st₁ S₁ q₁ => by
    subst q₁
    cases c with
    | true => exact wpAny_mono (hb rfl A F h₀ R₁ s₁ hf lh rm tp S₁) (fun _ _ e => e.elim) fun _ _ x => x.from st₁
    | false => exact wpAny_mono (he rfl A F h₀ R₁ s₁ hf lh rm tp S₁) (fun _ _ e => e.elim) fun _ _ x => x.from st₁)
theorem exT_if {t : PySem.Expr} {body orelse : List Stmt} {pos : Pos} {b : Bool} {f : Fl} (ht : Tr w k sc σ t b σ₁) (hb : b = true → ExsT w k sc σ₁ body f σ') (he : b = false → ExsT w k sc σ₁ orelse f σ') : ExT w k sc σ (.If t body orelse pos) f σ' := fun A F h₀ R s hf lh rm tp S =>
  wpAny_If (wp_then (ht A F h₀ R s rm S) fun c R₁ s₁ st₁ S₁ q₁ => by
    subst q₁
    cases c with
    | true => exact wp_from st₁ (hb rfl A F h₀ R₁ s₁ hf lh rm tp S₁)
    | false => exact wp_from st₁ (he rfl A F h₀ R₁ s₁ hf lh rm tp S₁))

/-- name = name[name], beyond the list -/
theorem exR_assign_item {x y z : Str} {p0 p1 p2 p3 pos : Pos} {ds : List D} {i : Int} (qy : σ.lookup y = some (.fz (.list ds))) (qz : σ.lookup z = some (.fz (.int i))) (hi : i = ds.length) (hz : ds.length ≤ sizeLine)
    (hn : Nm y ∧ Nm z := by decide) (hk : sc.kind = .function := by rfl)
    (hs : ∀ sc F, swapsWith (.Subscript (.Name y p1) (.Name z p2) p3) (some (.Name x p0)) pos.line (mkEnv sc F) = pure false := by intro _ _; rfl) : ExR w k sc σ (.Assign [.Name x p0] (.Subscript (.Name y p1) (.Name z p2) p3) pos) σ := fun A F h₀ R s hf lh rm tp S => by
  rw [exec_Assign_Name _ _ _ _ _ (hs _ _)]
  refine wpAny_bind (wpAny_standAt (wpAny_bind (item_out (b := true) S (.inl rm.h) qy qz hi hz hk hn fun h' tk e X => ?_)))
  exact ⟨_, _, _, _, _, rfl, X⟩
theorem exR_while {y z u : Str} {p1 p2 p3 p4 p5 pos : Pos} {body : List Stmt} {ds : List D} {i : Int} (h5 : 5 ≤ k) (qy : σ.lookup y = some (.fz (.list ds))) (qz : σ.lookup z = some (.fz (.int i))) (hi : i = ds.length) (hz : ds.length ≤ sizeLine)
    (hn : Nm y ∧ Nm z := by decide) (hk : sc.kind = .function := by rfl) (hm : behindInMarks .Eq (.Name u p4) = false := by with_unfolding_all rfl) :
    ExR w k sc σ (.While (.Compare (.Subscript (.Name y p1) (.Name z p2) p3) [.Eq] [.Name u p4] p5) body [] pos) σ := fun A F h₀ R s hf lh rm tp S => by
  obtain ⟨outer, top⟩ := tp h5
  exact while_out (b := true) S rfl top (.inl rm.h) qy qz hi hz hk hn hm fun e wr s' X => ⟨_, _, _, _, _, rfl, X⟩
theorem exT_while_no {y z u : Str} {p1 p2 p3 p4 p5 pos : Pos} {body : List Stmt} {xs : List Str} {i : Int} {j : Nat} {x t : Str} (qy : σ.lookup y = some (.fz (.list (xs.map .str)))) (qz : σ.lookup z = some (.fz (.int i))) (hi : i = j) (hx : xs[j]? = some x) (hz : xs.length ≤ sizeLine) (qu : σ.lookup u = some (.fz (.str t))) (hne : (x == t) = false)
    (hn : Nm y ∧ Nm z ∧ Nm u := by decide) (hk : sc.kind = .function := by rfl) (hm : behindInMarks .Eq (.Name u p4) = false := by with_unfolding_all rfl) :
    ExT w k sc σ (.While (.Compare (.Subscript (.Name y p1) (.Name z p2) p3) [.Eq] [.Name u p4] p5) body [] pos) .next σ := fun A F h₀ R s hf lh rm tp S =>
  while_no S qy qz hi hx hz qu hne hk hn hm ⟨R, .refl .., S, .next⟩

/-- while True that ends by break -/
theorem exT_while_brk {test : PySem.Expr} {body : List Stmt} {pos : Pos} {n : Nat} (σs : Nat → St) (h0 : ∀ x sl, (σs 0).lookup x = some sl → σ.lookup x = some sl) (tt : ∀ σ, Tr w k sc σ test true σ)
    (go : ∀ i, i < n → ExsT w k sc (σs i) body .next (σs (i + 1))) (last : ExsT w k sc (σs n) body .brk σ') :
    ExT w k sc σ (.While test body [] pos) .next σ' := fun A F h₀ R s hf lh rm tp S => by
  refine wpAny_While (codeAny_mono (codeAny_whileLoop (prog := PG) (w := w) (A := A) (R := fun r s' => ∃ R', r = .ok .next ∧ Step h₀ R R' s s' ∧ Sat w A sc F h₀ σ' R' s')
    (fun j s' => ∃ i R', j = n - i ∧ i ≤ n ∧ Step h₀ R R' s s' ∧ Sat w A sc F h₀ (σs i) R' s') ?_ (n - 0) ⟨0, R, rfl, Nat.zero_le _, .refl .., S.weaken h0⟩) ?_)
  · rintro _ s₁ ⟨i, R₁, rfl, hin, st₁, S₁⟩
    refine wp_then (tt _ A F h₀ R₁ s₁ rm S₁) fun b R₂ s₂ st₂ S₂ e => ?_
    subst e
    rw [if_pos rfl]
    by_cases hlt : i < n
    · refine wpAny_mono (go i hlt A F h₀ R₂ s₂ hf lh rm tp S₂) ?_ fun _ _ e => e.elim
      rintro f s₃ ⟨R₃, st₃, S₃, q⟩
      cases q
      exact ⟨n - (i + 1), by omega, i + 1, R₃, rfl, hlt, (st₁.trans st₂).trans st₃, S₃⟩
    · have : i = n := Nat.le_antisymm hin (Nat.not_lt.mp hlt)
      subst this
      refine wpAny_mono (last A F h₀ R₂ s₂ hf lh rm tp S₂) ?_ fun _ _ e => e.elim
      rintro f s₃ ⟨R₃, st₃, S₃, q⟩
      cases q
      exact ⟨R₃, rfl, (st₁.trans st₂).trans st₃, S₃⟩
  · rintro r s' ⟨R', rfl, st, S'⟩
    exact ⟨R', st, S', .next⟩

theorem exT_try {body : List Stmt} {h₁ : ExceptHandler} {hs : List ExceptHandler} {pos : Pos} (h : ExsT w k sc σ body .next σ') : ExT w k sc σ (.Try body (h₁ :: hs) [] [] pos) .next σ' := fun A F h₀ R s hf lh rm tp S =>
  wpAny_Try_except (wpAny_mono (h A F h₀ R s hf lh rm tp S) (fun f s' ⟨R', st, S', q⟩ => by cases q; exact wpAny_execs_nil ⟨R', st, S', .next⟩) fun _ _ e => e.elim)

/-- the suite of a handler, with its exception at work -/
noncomputable def Suite (w : World) (k : Nat) (sc : Scope) (σ : St) (sts : List Stmt) (f : Fl) (σ' : St) : Prop :=
  ∀ A A' F h₀ R s, F.fn.isSome = true → Fresh F h₀ → A'.frames = A.frames → Sat w A sc F h₀ σ R s →
    wpAny (MM w) A' (execs sts (mkEnv sc F)) (fun v s' => ∃ R', Step h₀ R R' s s' ∧ Sat w A sc F h₀ σ' R' s' ∧ FlRep w R' f v) (fun _ _ => False) s

theorem glob_any {A' : Around} {x : Str} {p : Pos} {v : Value} {Q : Value → Shared → Prop} {E : Value → Shared → Prop} (S : Sat w A sc F h₀ σ R s) (e : ∀ w, nsIn (KK w) mainGlobals x = some none) (hv : bootBuiltins x = some v) (hn : x ≠ "__name__") (hx : sc.names.lookup x = some .globalImplicit) (hk : sc.kind = .function) (hd : (x == ("__debug__" : Str)) = false)
    (h : Q v s) : wpAny (MM w) A' (eval (.Name x p) (mkEnv sc F)) Q E s := by
  have B := S.base.mono S.old
  obtain ⟨mg, G⟩ := B.g
  obtain ⟨mb, Gb, eb⟩ := B.b
  exact Calls.Name_function_global hk hx (Calls.loadGlobal_builtin (env := mkEnv sc F) G (mg_none_of B.k G (e w)) Gb ((eb x hn).trans hv) h) hd

theorem exT_try_caught {body : List Stmt} {b₀ : Stmt} {suite : List Stmt} {p1 p2 pos : Pos} {f : Fl} (h5 : 5 ≤ k) (hb : ExsR w k sc σ body σ₁) (hs : Suite w k sc σ₁ (b₀ :: suite) f σ')
    (hx : sc.names.lookup (Str.ofString "IndexError") = some .globalImplicit := by rfl) (hk : sc.kind = .function := by rfl) : ExT w k sc σ (.Try body [.ExceptHandler (some (.Name "IndexError" p1)) none (b₀ :: suite) p2] [] [] pos) f σ' := fun A F h₀ R s hf lh rm tp S => by
  obtain ⟨outer, top⟩ := tp h5
  refine wpAny_Try_except (wpAny_mono (hb A F h₀ R s hf lh rm tp S) (fun _ _ e => e.elim) ?_)
  rintro x s₁ ⟨fr, tr, e, wr, R₁, rfl, X⟩
  refine X_note X top fun wr₂ s₂ X₂ => X_flight X₂ fun s₃ X₃ => ?_
  refine wpAny_handleBy_builtin (X := "IndexError") (T := "IndexError") (b := true) (by rw [isSubtype_type]; kernel_rfl) (by rw [isSubtype_type]; kernel_rfl) (by rw [isSubtype_type]; kernel_rfl) ?_
  refine glob_any X₃.S (fun w => by kernel_rfl) (by kernel_rfl) (by decide) hx hk (by decide) ⟨rfl, ?_, ?_⟩
  · obtain ⟨oe, vs, he, hc, _⟩ := X₃.x.x
    exact ⟨oe, he, hc⟩
  · rw [if_pos rfl]
    refine X_flight X₃ fun s₄ X₄ => ?_
    exact wpAny_mono (hs A (A.mark (some (.ref e))) F h₀ _ s₄ hf lh rfl X₄.S) (fun v s' ⟨R', st, S', q⟩ => ⟨R', X₄.st.trans st, S', q⟩) fun _ _ e => e.elim

/-- name.extend(name[name:]) -/
theorem suite_extend {x y z : Str} {p ap pos epos p1 p2 p3 p4 : Pos} {rest : List Stmt} {f : Fl} {ds es : List D} {i : Int} {n : Nat} (q : σ.lookup x = some (.own (.list ds))) (qy : σ.lookup y = some (.fz (.list es))) (qz : σ.lookup z = some (.fz (.int i))) (hi : i = n) (hz : ds.length + es.length ≤ sizeLine)
    (hr : Suite w k sc (put σ x (.own (.list (ds ++ es.drop n)))) rest f σ')
    (hx : sc.names.lookup x = some .local) (hk : sc.kind = .function := by rfl) (hn : Nm x ∧ Nm y ∧ Nm z := by decide)
    (hp : Plain [.Subscript (.Name y p1) (.Slice (some (.Name z p2)) none none p3) p4] := by intro _ _; rfl)
    (he : ∀ sc F, ∃ pl, eval (.Call (.Attribute (.Name x p) "extend" ap) [.Subscript (.Name y p1) (.Slice (some (.Name z p2)) none none p3) p4] [] pos) (mkEnv sc F) = (do
      let ov ← eval (.Name x p) (mkEnv sc F)
      standAt ap.atName
      let (f, first) ← holding [ov] (getMethod ov "extend" pl)
      callWith pos f first (backTo pos (starEach [.Subscript (.Name y p1) (.Slice (some (.Name z p2)) none none p3) p4] (mkEnv sc F))) []) := by intro _ _; exact ⟨_, rfl⟩)
    (hes : ∀ env, starEach [.Subscript (.Name y p1) (.Slice (some (.Name z p2)) none none p3) p4] env = [(false, eval (.Subscript (.Name y p1) (.Slice (some (.Name z p2)) none none p3) p4) env)] := by intro _; rfl)
    (hi' : ∀ F, interactive (mkEnv sc F) = false := by intro _; rfl)
    (hs : ∀ F, swapsWith (.Call (.Attribute (.Name x p) "extend" ap) [.Subscript (.Name y p1) (.Slice (some (.Name z p2)) none none p3) p4] [] pos) none epos.line (mkEnv sc F) = pure false := by intro _; rfl)
    (ht : ∀ o r, letTemporaryGo (.Name y p1) o r = pure () := by intro _ _; rfl) :
    Suite w k sc σ (.Expr (.Call (.Attribute (.Name x p) "extend" ap) [.Subscript (.Name y p1) (.Slice (some (.Name z p2)) none none p3) p4] [] pos) epos :: rest) f σ' := fun A A' F h₀ R s hf lh hfr S => by
  refine wpAny_execs_cons ?_
  obtain ⟨m, V⟩ := S.vars
  obtain ⟨a, hm, o⟩ := S.ownAt V.ns q hx
  obtain ⟨pl, he⟩ := he sc F
  refine wpAny_Expr (MethodCall_ (pl := pl) (wpAny_Name (wpAny_loadName_local hk hx V.ns hm ?_) hn.1.1) he) (hi' _) (hs _)
  cases o with
  | @list _ vs nn _ ho r =>
    refine getMethod_list_of PySem.F.slot_list_extend PySem.F.type_list_extend (items := vs.toArray) ⟨_, ho, rfl, nn, rfl⟩ ⟨_, ho, rfl⟩ ?_
    refine (callOk_builtin (w := w) "list.extend") (hp _ _) ?_
    rw [hes]
    refine Calls.spliced_cons (wpAny_Subscript_list_slice (load_fz S qy hk hn.2.1.1 hn.2.1.2 fun va ra => ?_) ht)
    show wpAny (MM w) A' (eval (.Name z p2) (mkEnv sc F)) _ _ s
    refine load_fz S qz hk hn.2.2.1 hn.2.2.2 fun vb rb => wpAny_pure ?_
    replace ra := ra.list_inv
    obtain ⟨b, us, rfl, hb, rs⟩ := ra
    replace rb := rb.int_inv
    obtain ⟨t, rfl⟩ := rb
    have lu := rs.length
    have lv := r.length
    refine ⟨b, us.toArray, some i, none, rfl, isList_mono S.ext hb, by rw [List.size_toArray]; omega, .int _ _, .none, ?_⟩
    have l1 := Le.push s.heap ({ cls := .type "slice", data := .fields #[.int i t, .none, .none] } : Obj)
    have l2 := Le.push (s.heap.push ({ cls := .type "slice", data := .fields #[.int i t, .none, .none] } : Obj)) ({ cls := .type "list", data := .seq (slicePick us.toArray (some i) none none) } : Obj)
    have g : ((s.heap.push ({ cls := .type "slice", data := .fields #[.int i t, .none, .none] } : Obj)).push ({ cls := .type "list", data := .seq (slicePick us.toArray (some i) none none) } : Obj)).get? (s.heap.objs.size + 1) = some ({ cls := .type "list", data := .seq (slicePick us.toArray (some i) none none) } : Obj) := by
      have := Heap.get?_push_size (s.heap.push ({ cls := .type "slice", data := .fields #[.int i t, .none, .none] } : Obj)) (o := ({ cls := .type "list", data := .seq (slicePick us.toArray (some i) none none) } : Obj)) rfl
      rwa [Heap.size_push] at this
    have S₁ := S.keep (t := s.toks) (d := s.drawn) (l1.trans l2)
    generalize (s.heap.push ({ cls := .type "slice", data := .fields #[.int i t, .none, .none] } : Obj)).push ({ cls := .type "list", data := .seq (slicePick us.toArray (some i) none none) } : Obj) = h1 at g S₁ l2
    have l : Le s.heap h1 := l1.trans l2
    have hdrop : (slicePick us.toArray (some i) none none).toList = us.drop n := by rw [pick_from (by omega), hi]; rfl
    refine Calls.spliced_nil ⟨(S₁.base.mono S₁.old).k, ?_⟩
    refine call_extend (vs := vs) (ws := us.drop n) (n := nn) (l _ _ ho) ⟨_, g, rfl, 0, by rw [← hdrop]⟩ (by rw [List.length_drop]; omega) fun h' sb ⟨n', g'⟩ => ?_
    have S₂ := S₁.updOwn (t := s.toks) q (V.ns.keeps l) (.loc hx hm) sb (.list g' (r.append (rs.drop n)))
    exact wpAny_mono (hr A A' F h₀ R _ hf lh hfr S₂) (fun v s' ⟨R', st, S', q⟩ => ⟨R', Step.trans (.heap (t := s.toks)) st, S', q⟩) fun _ _ e => e
end
end Mine
end

noncomputable section
open PySem PySem.W PyProof.Rows PySem.SeqAt
namespace Mine
section
variable {w : World} {k : Nat} {A A' : Around} {sc : Scope} {F : FrS} {h₀ R R' R'' h h' : Heap} {σ σ' σ₁ σ₂ σ₃ : St} {s s' s'' : Shared} {fn : Prop} {wr wr' : List Addr} {fr tr : Bool} {e : Addr}

theorem OffW.fresh (O : OffW A F h₀ wr) (lh : Fresh F h₀) : Fresh F (lock h₀ h (fun b => decide (b ∈ wr))) :=
  ⟨lock_none lh.L (decide_eq_false fun q => O.l _ q rfl), fun hf y c e => lock_none (lh.c hf y c e) (decide_eq_false fun q => O.c _ q y c e rfl)⟩
theorem ExcAt.move (X : ExcAt h e wr fr tr) (keep : ∀ b ∈ wr, ∀ o, h.get? b = some o → h'.get? b = some o) : ExcAt h' e wr fr tr := by
  obtain ⟨m, oe, vs, he, hc, hd, hz, hf, ht⟩ := X
  refine ⟨m, oe, vs, keep e m _ he, hc, hd, hz, hf, ht.imp id ?_⟩
  rintro ⟨T, oT, ts, h1, hm, hne, hT, r⟩
  exact ⟨T, oT, ts, h1, hm, hne, keep T hm _ hT, r⟩

variable {y z u y2 z2 u2 : Str} {p1 p2 p3 p4 p5 q1 q2 q3 q4 q5 r1 r2 r3 pa pb pos : Pos} {kd : Nat} {b1 b2 : List Stmt} {xs ys : List Str} {i i2 : Int} {t t2 : Str}

/-- the try with a finally of sorted_list_difference: nothing raises -/
theorem exT_final_nn {j j2 : Nat} {x x2 : Str} (qy : σ.lookup y = some (.fz (.list (xs.map .str)))) (qz : σ.lookup z = some (.fz (.int i))) (hi : i = j) (hx : xs[j]? = some x) (hzx : xs.length ≤ sizeLine) (qu : σ.lookup u = some (.fz (.str t))) (hne : (x == t) = false)
    (qy2 : (put σ z2 (.fz (.int (i2 + 1)))).lookup y2 = some (.fz (.list (ys.map .str)))) (qz2 : σ.lookup z2 = some (.fz (.int i2))) (hi2 : i2 + 1 = j2) (hx2 : ys[j2]? = some x2) (hzy : ys.length ≤ sizeLine) (qu2 : (put σ z2 (.fz (.int (i2 + 1)))).lookup u2 = some (.fz (.str t2))) (hne2 : (x2 == t2) = false)
    (hz2 : sc.names.lookup z2 = some .local) (hk : sc.kind = .function := by rfl)
    (hn : (Nm y ∧ Nm z ∧ Nm u) ∧ Nm y2 ∧ Nm z2 ∧ Nm u2 := by decide) (hm : behindInMarks .Eq (.Name u p4) = false := by with_unfolding_all rfl) (hm2 : behindInMarks .Eq (.Name u2 q4) = false := by with_unfolding_all rfl) :
    ExT w k sc σ (.Try [.While (.Compare (.Subscript (.Name y p1) (.Name z p2) p3) [.Eq] [.Name u p4] p5) b1 [] pa] [] [] [.AugAssign (.Name z2 r1) .Add (.Constant (.int 1) kd r2) r3, .While (.Compare (.Subscript (.Name y2 q1) (.Name z2 q2) q3) [.Eq] [.Name u2 q4] q5) b2 [] pb] pos) .next (put σ z2 (.fz (.int (i2 + 1)))) := fun A F h₀ R s hf lh rm tp S => by
  have l2 : (put σ z2 (.fz (.int (i2 + 1)))).lookup z2 = some (.fz (.int (i2 + 1))) := by rw [lookup_put, if_pos rfl]
  refine wpAny_Try_finally (wpAny_execs_cons (while_no S qy qz hi hx hzx qu hne hk hn.1 hm ?_))
  refine wpAny_execs_nil (wpAny_execs_nil ?_)
  refine wpAny_execs_cons (wpAny_mono (aug1 S lh qz2 hz2 hk) ?_ fun _ _ e => e.elim)
  rintro v s₁ ⟨R₁, st₁, S₁, rfl⟩
  exact wpAny_execs_cons (while_no S₁ qy2 l2 hi2 hx2 hzy qu2 hne2 hk hn.2 hm2 (wpAny_execs_nil ⟨R₁, st₁, S₁, .next⟩))

/-- the finally raises alone -/
theorem exR_final_nr {j : Nat} {x : Str} (h5 : 5 ≤ k) (qy : σ.lookup y = some (.fz (.list (xs.map .str)))) (qz : σ.lookup z = some (.fz (.int i))) (hi : i = j) (hx : xs[j]? = some x) (hzx : xs.length ≤ sizeLine) (qu : σ.lookup u = some (.fz (.str t))) (hne : (x == t) = false)
    (qy2 : (put σ z2 (.fz (.int (i2 + 1)))).lookup y2 = some (.fz (.list (ys.map .str)))) (qz2 : σ.lookup z2 = some (.fz (.int i2))) (hi2 : i2 + 1 = ys.length) (hzy : ys.length ≤ sizeLine)
    (hz2 : sc.names.lookup z2 = some .local) (hk : sc.kind = .function := by rfl)
    (hn : (Nm y ∧ Nm z ∧ Nm u) ∧ Nm y2 ∧ Nm z2 := by decide) (hm : behindInMarks .Eq (.Name u p4) = false := by with_unfolding_all rfl) (hm2 : behindInMarks .Eq (.Name u2 q4) = false := by with_unfolding_all rfl) :
    ExR w k sc σ (.Try [.While (.Compare (.Subscript (.Name y p1) (.Name z p2) p3) [.Eq] [.Name u p4] p5) b1 [] pa] [] [] [.AugAssign (.Name z2 r1) .Add (.Constant (.int 1) kd r2) r3, .While (.Compare (.Subscript (.Name y2 q1) (.Name z2 q2) q3) [.Eq] [.Name u2 q4] q5) b2 [] pb] pos) (put σ z2 (.fz (.int (i2 + 1)))) := fun A F h₀ R s hf lh rm tp S => by
  obtain ⟨outer, top⟩ := tp h5
  have l2 : (put σ z2 (.fz (.int (i2 + 1)))).lookup z2 = some (.fz (.int (i2 + 1))) := by rw [lookup_put, if_pos rfl]
  refine wpAny_Try_finally (wpAny_execs_cons (while_no S qy qz hi hx hzx qu hne hk hn.1 hm ?_))
  refine wpAny_execs_nil (wpAny_execs_nil ?_)
  refine wpAny_execs_cons (wpAny_mono (aug1 S lh qz2 hz2 hk) ?_ fun _ _ e => e.elim)
  rintro v s₁ ⟨R₁, st₁, S₁, rfl⟩
  refine wpAny_execs_cons (while_out (b := true) S₁ rfl top (.inl rm.h) qy2 l2 (by rw [List.length_map]; exact hi2) (by rw [List.length_map]; exact hzy) hk hn.2 hm2 fun e wr s₂ X => ?_)
  exact X_note X top fun wr₃ s₃ X₃ => X_cameBack X₃ fun s₄ X₄ => ⟨_, _, _, _, _, rfl, X₄.from st₁⟩

/-- the body raises, the finally or not -/
theorem exR_final_r {j2 : Nat} (h5 : 5 ≤ k) (qy : σ.lookup y = some (.fz (.list (xs.map .str)))) (qz : σ.lookup z = some (.fz (.int i))) (hi : i = xs.length) (hzx : xs.length ≤ sizeLine)
    (qy2 : (put σ z2 (.fz (.int (i2 + 1)))).lookup y2 = some (.fz (.list (ys.map .str)))) (qz2 : σ.lookup z2 = some (.fz (.int i2))) (hi2 : i2 + 1 = j2) (hzy : ys.length ≤ sizeLine) (qu2 : (put σ z2 (.fz (.int (i2 + 1)))).lookup u2 = some (.fz (.str t2)))
    (h2 : (∃ x2, ys[j2]? = some x2 ∧ (x2 == t2) = false) ∨ j2 = ys.length)
    (hz2 : sc.names.lookup z2 = some .local) (hk : sc.kind = .function := by rfl)
    (hn : (Nm y ∧ Nm z) ∧ Nm y2 ∧ Nm z2 ∧ Nm u2 := by decide) (hm : behindInMarks .Eq (.Name u p4) = false := by with_unfolding_all rfl) (hm2 : behindInMarks .Eq (.Name u2 q4) = false := by with_unfolding_all rfl) :
    ExR w k sc σ (.Try [.While (.Compare (.Subscript (.Name y p1) (.Name z p2) p3) [.Eq] [.Name u p4] p5) b1 [] pa] [] [] [.AugAssign (.Name z2 r1) .Add (.Constant (.int 1) kd r2) r3, .While (.Compare (.Subscript (.Name y2 q1) (.Name z2 q2) q3) [.Eq] [.Name u2 q4] q5) b2 [] pb] pos) (put σ z2 (.fz (.int (i2 + 1)))) := fun A F h₀ R s hf lh rm tp S => by
  obtain ⟨outer, top⟩ := tp h5
  have l2 : (put σ z2 (.fz (.int (i2 + 1)))).lookup z2 = some (.fz (.int (i2 + 1))) := by rw [lookup_put, if_pos rfl]
  refine wpAny_Try_finally (wpAny_execs_cons (while_out (b := true) S rfl top (.inl rm.h) qy qz (by rw [List.length_map]; exact hi) (by rw [List.length_map]; exact hzx) hk hn.1 hm fun e wr s₁ X₁ => ?_))
  refine X_note X₁ top fun wr₂ s₂ X₂ => ⟨ref_ne_byPass e, X_note X₂ top fun wr₃ s₃ X₃ => X_flight X₃ fun s₄ X₄ => ?_⟩
  refine wpAny_execs_cons (wpAny_mono (run_lockedM (K := fun _ v => v = .next) (σ' := put σ z2 (.fz (.int (i2 + 1)))) X₄.S X₄.O X₄.Y fun SL => wpAny_mono (aug1 SL (X₄.O.fresh lh) qz2 hz2 hk) (fun v s' ⟨R', st, S', e⟩ => ⟨R', st, S', e⟩) fun _ _ e => e) ?_ fun _ _ e => e.elim)
  rintro v s₅ ⟨R₅, st₅, S₅, Y₅, keep, rfl⟩
  have x₅ := X₄.x.move keep
  rcases h2 with ⟨x2, hx2, hne2⟩ | hj
  · refine wpAny_execs_cons (while_no S₅ qy2 l2 hi2 hx2 hzy qu2 hne2 hk hn.2 hm2 (wpAny_execs_nil ?_))
    refine X_passOn (⟨X₄.st.trans st₅, S₅, X₄.O, Y₅, x₅⟩ : XAt w A sc F h₀ R s _ _ true e wr₃ R₅ s₅) fun s₆ X₆ => ⟨_, _, _, _, _, rfl, X₆⟩
  · obtain ⟨oe, vs, he, hc, hd, hz, hfr, _⟩ := x₅.x
    refine wpAny_execs_cons (while_out (b := false) (A' := A.mark (some (.ref e))) S₅ rfl top (.inr ⟨rfl, e, oe, vs, rfl, he, hd, hfr rfl⟩) qy2 l2 (by rw [List.length_map, hi2, hj]) (by rw [List.length_map]; exact hzy) hk ⟨hn.2.1, hn.2.2.1⟩ hm2 fun e2 wr' s₆ X₆ => ?_)
    refine X_note (X₆.around (A' := A.mark (some (.ref e))) rfl) top fun wr₇ s₇ X₇ => X_cameBack X₇ fun s₈ X₈ => ⟨_, _, _, _, _, rfl, (X₈.around (A' := A) rfl).from (X₄.st.trans st₅)⟩
end
end Mine
end

noncomputable section
open PySem PySem.W PyProof.Rows PySem.SeqAt
namespace Mine
/-! the difference of two sorted lists -/
noncomputable def ltS (a b : Str) : Prop := a.cps.toList < b.cps.toList
theorem ltS_trans {a b c : Str} (h : ltS a b) (g : ltS b c) : ltS a c := List.lt_trans h g
theorem ltS_irrefl (a : Str) : ¬ ltS a a := List.lt_irrefl _
theorem str_ext {a b : Str} (h : a.cps.toList = b.cps.toList) : a = b := by
  obtain ⟨⟨x⟩⟩ := a
  obtain ⟨⟨y⟩⟩ := b
  simp only at h
  rw [h]
theorem ltS_tri (a b : Str) : ltS a b ∨ ltS b a ∨ a = b := by
  by_cases h1 : a.cps.toList < b.cps.toList
  · exact .inl h1
  by_cases h2 : b.cps.toList < a.cps.toList
  · exact .inr (.inl h2)
  · rw [List.not_lt] at h1 h2
    exact .inr (.inr (str_ext (List.le_antisymm h2 h1)))
theorem ltS_asymm {a b : Str} (h : ltS a b) : ¬ ltS b a := fun g => ltS_irrefl _ (ltS_trans h g)
theorem ltS_ne {a b : Str} (h : ltS a b) : a ≠ b := fun e => ltS_irrefl _ (e ▸ h)
noncomputable abbrev Rising (l : List Str) : Prop := l.Pairwise ltS
noncomputable def mdiff (xs ys : List Str) : List Str := xs.filter fun x => decide (x ∉ ys)

theorem notMem_of_lt {x : Str} {ys : List Str} (h : ∀ y ∈ ys, ltS x y) : x ∉ ys := fun m => ltS_irrefl _ (h x m)
theorem mdiff_nil (ys : List Str) : mdiff [] ys = [] := rfl
theorem mdiff_nil' (xs : List Str) : mdiff xs [] = xs := by
  unfold mdiff; rw [List.filter_eq_self]; intro a _; simp
theorem mdiff_skip {x : Str} {xs ys : List Str} (h : ∀ y ∈ ys, y ≠ x) : mdiff ys (x :: xs) = mdiff ys xs := by
  unfold mdiff
  apply List.filter_congr
  intro y hy
  have := h y hy
  simp [this]
/-- the first is less -/
theorem mdiff_lt {x y : Str} {xs ys : List Str} (hy : Rising (y :: ys)) (h : ltS x y) : mdiff (x :: xs) (y :: ys) = x :: mdiff xs (y :: ys) ∧ mdiff (y :: ys) (x :: xs) = mdiff (y :: ys) xs := by
  have hlt : ∀ z ∈ y :: ys, ltS x z := fun z hz => by
    rcases List.mem_cons.mp hz with e | hz
    · exact e ▸ h
    · exact ltS_trans h (List.rel_of_pairwise_cons hy hz)
  refine ⟨?_, mdiff_skip fun z hz e => ltS_irrefl _ (e ▸ hlt z hz)⟩
  unfold mdiff
  rw [List.filter_cons, if_pos (by simpa using notMem_of_lt hlt)]
theorem mdiff_eq {x : Str} {xs ys : List Str} (hx : Rising (x :: xs)) : mdiff (x :: xs) (x :: ys) = mdiff xs ys := by
  unfold mdiff
  rw [List.filter_cons, if_neg (by simp)]
  exact mdiff_skip fun z hz e => ltS_irrefl _ (e ▸ List.rel_of_pairwise_cons hx hz)
theorem rising_sort {l : List Str} (h : l.Nodup) : Rising (sortS l) := by
  have p := sortS_pairwise l
  have n : (sortS l).Nodup := (sortS_perm l).nodup_iff.mpr h
  have both := List.Pairwise.and p n
  refine both.imp ?_
  rintro a b ⟨h1, h2⟩
  rcases ltS_tri a b with h | h | h
  · exact h
  · rw [leS_iff] at h1; exact (h1 h).elim
  · exact (h2 h).elim
end Mine
end

noncomputable section
open PySem PySem.W PyProof.Rows PySem.SeqAt
namespace Mine
section
variable {w : World} {k : Nat} {A A' : Around} {sc : Scope} {F : FrS} {h₀ R R' R'' h h' : Heap} {σ σ' σ₁ σ₂ σ₃ : St} {s s' s'' : Shared}
theorem exsR_to {sts : List Stmt} (h : ExsR w k sc σ sts σ₁) (q : Sub σ₂ σ₁) : ExsR w k sc σ sts σ₂ := fun A F h₀ R s hf lh rm tp S =>
  wpAny_mono (h A F h₀ R s hf lh rm tp S) (fun _ _ e => e) fun x s' ⟨fr, tr, e, wr, R', r, X⟩ => ⟨fr, tr, e, wr, R', r, X.st, X.S.weaken q.lk, X.O, X.Y.weaken q.lk, X.x⟩
theorem suite_to {pos : Pos} (q : Sub σ' σ) : Suite w k sc σ [.Break pos] .brk σ' := fun A A' F h₀ R s hf lh hfr S => wpAny_execs_cons (wpAny_Break ⟨R, .refl .., S.weaken q.lk, .brk⟩)
theorem op_gt_str {x y : Str} : Op2 w k (compareOp .Gt) (.str x) (.str y) (.bool (y.cps.toList < x.cps.toList)) := fun A R s va vb c ra rb => by
  cases ra; cases rb
  exact PySem.P.gt_str ⟨R, .refl c, .bool _⟩

theorem exT_sub {st : Stmt} {f : Fl} (h : Sub σ₁ σ) (hs : ExT w k sc σ₁ st f σ') : ExT w k sc σ st f σ' := fun A F h₀ R s hf lh rm tp S => hs A F h₀ R s hf lh rm tp (S.weaken h.lk)

/-- turns that end by a break -/
inductive Runs (w : World) (k : Nat) (sc : Scope) (body : List Stmt) : St → St → Prop
  | brk {σ σ' : St} : ExsT w k sc σ body .brk σ' → Runs w k sc body σ σ'
  | next {σ σ₁ σ' : St} : ExsT w k sc σ body .next σ₁ → Runs w k sc body σ₁ σ' → Runs w k sc body σ σ'
theorem Runs.seq {body : List Stmt} (r : Runs w k sc body σ σ') : ∃ (n : Nat) (σs : Nat → St), σs 0 = σ ∧ (∀ i, i < n → ExsT w k sc (σs i) body .next (σs (i + 1))) ∧ ExsT w k sc (σs n) body .brk σ' := by
  induction r with
  | @brk σ _ h => exact ⟨0, fun _ => σ, rfl, fun i hi => absurd hi (Nat.not_lt_zero _), h⟩
  | @next σ _ _ h _ ih =>
    obtain ⟨n, σs, h0, h1, h2⟩ := ih
    refine ⟨n + 1, fun i => match i with | 0 => σ | i + 1 => σs i, rfl, fun i hi => ?_, h2⟩
    cases i with
    | zero => show ExsT w k sc σ body .next (σs 0); rw [h0]; exact h
    | succ i => exact h1 i (by omega)
theorem exT_while_runs {test : PySem.Expr} {body : List Stmt} {pos : Pos} (tt : ∀ σ, Tr w k sc σ test true σ) (r : Runs w k sc body σ σ') : ExT w k sc σ (.While test body [] pos) .next σ' := by
  obtain ⟨n, σs, h0, h1, h2⟩ := r.seq
  exact exT_while_brk σs (fun x sl e => by rw [h0] at e; exact e) tt h1 h2
end
theorem tr_true {w : World} {k : Nat} {sc : Scope} {kd : Nat} {pos : Pos} (σ : St) : Tr w k sc σ (.Constant (.bool true) kd pos) true σ := tr_plain ev_bool truth_bool

noncomputable def subSt (l : List Stmt) (i : Nat) : List Stmt := match l[i]? with | some (.While _ b _ _) => b | some (.For _ _ b _ _) => b | some (.Try b _ _ _ _) => b | _ => []
noncomputable def hands (l : List Stmt) : List Stmt := match (l[(0 : Nat)]? : Option Stmt) with | some (.Try _ [.ExceptHandler _ _ b _] _ _ _) => b | _ => []
noncomputable def dWhile : List Stmt := subSt (defBody 18) 3
noncomputable def dTry : List Stmt := subSt dWhile 0
noncomputable def dSuite : List Stmt := hands dWhile
noncomputable def dSt (xs ys : List Str) (i j : Nat) (m u : List Str) : St := [("expected", .fz (.list (xs.map .str))), ("actual", .fz (.list (ys.map .str))), ("i", .fz (.int i)), ("j", .fz (.int j)), ("missing", .own (.list (m.map .str))), ("unexpected", .own (.list (u.map .str)))]
noncomputable def dEnd (m u : List Str) : St := [("missing", .own (.list (m.map .str))), ("unexpected", .own (.list (u.map .str)))]
theorem int_succ (i : Nat) : D.int ((i : Int) + 1) = D.int ((i + 1 : Nat) : Int) := by simp

section
theorem d_suite (w : World) {xs ys m u : List Str} {i j : Nat} (hx : m.length + xs.length ≤ 10000) (hy : u.length + ys.length ≤ 10000) : Suite w 5 (defScope 18) (dSt xs ys i j m u) dSuite .brk (dEnd (m ++ xs.drop i) (u ++ ys.drop j)) := by
  have z : ∀ n, n ≤ 10000 → n ≤ sizeLine := fun n h => by simp only [sizeLine]; omega
  refine suite_extend (ds := m.map .str) (es := xs.map .str) (n := i) (by rfl) (by rfl) (by rfl) rfl (z _ (by simpa using hx)) ?_ (by rfl)
  refine suite_extend (ds := u.map .str) (es := ys.map .str) (n := j) (by rfl) (by rfl) (by rfl) rfl (z _ (by simpa using hy)) ?_ (by rfl)
  refine suite_to ⟨?_, ?_, trivial⟩
  · refine (show _ = some (Slot.own (.list (m.map .str ++ (xs.map .str).drop i))) from rfl).trans ?_
    rw [List.map_append, List.map_drop]
  · rw [lookup_put, if_pos rfl, List.map_append, List.map_drop]

theorem d_caught (w : World) {xs ys m u m' u' : List Str} {i j i' j' : Nat} (hx : m'.length + xs.length ≤ 10000) (hy : u'.length + ys.length ≤ 10000) (hr : ExsR w 5 (defScope 18) (dSt xs ys i j m u) dTry (dSt xs ys i' j' m' u')) :
    ExsT w 5 (defScope 18) (dSt xs ys i j m u) dWhile .brk (dEnd (m' ++ xs.drop i') (u' ++ ys.drop j')) :=
  exsT_stop (exT_try_caught (Nat.le_refl 5) hr (d_suite w hx hy)) (by intro h; cases h)
theorem d_next (w : World) {xs ys m u m' u' : List Str} {i j i' j' : Nat} (hr : ExsT w 5 (defScope 18) (dSt xs ys i j m u) dTry .next (dSt xs ys i' j' m' u')) :
    ExsT w 5 (defScope 18) (dSt xs ys i j m u) dWhile .next (dSt xs ys i' j' m' u') := exsT_cons (exT_try hr) (Exs.t exs_keep)

theorem getE (xs : List Str) {i : Nat} {x : Str} (h : xs[i]? = some x) : (xs.map D.str)[((i : Nat) : Int).toNat]? = some (.str x) := by
  rw [Int.toNat_natCast, List.getElem?_map, h]; rfl

theorem d_runs (w : World) (xs ys : List Str) (hx : Rising xs) (hy : Rising ys) (lx : xs.length ≤ 1000) (ly : ys.length ≤ 1000) : ∀ (n i j : Nat) (m u : List Str), (xs.length - i) + (ys.length - j) = n → i ≤ xs.length → j ≤ ys.length → m.length ≤ i → u.length ≤ j →
    Runs w 5 (defScope 18) dWhile (dSt xs ys i j m u) (dEnd (m ++ mdiff (xs.drop i) (ys.drop j)) (u ++ mdiff (ys.drop j) (xs.drop i))) := by
  have z : ∀ n, n ≤ 10000 → n ≤ sizeLine := fun n h => by simp only [sizeLine]; omega
  have z1 : (xs.map D.str).length ≤ sizeLine := z _ (by rw [List.length_map]; omega)
  have z2 : (ys.map D.str).length ≤ sizeLine := z _ (by rw [List.length_map]; omega)
  intro n
  induction n using Nat.strongRecOn with
  | _ n ih =>
    intro i j m u hn hi hj hm hu
    by_cases ex : i = xs.length
    · have := d_caught w (m' := m) (u' := u) (i' := i) (j' := j) (by omega) (by omega) (xs := xs) (ys := ys) (i := i) (j := j) (m := m) (u := u)
        (exsR_stop (exR_assign_item (ds := xs.map .str) (by rfl) (by rfl) (by rw [List.length_map, ex]) z1))
      have e1 : xs.drop i = [] := by rw [ex, List.drop_length]
      rw [e1] at this ⊢
      rw [mdiff_nil, mdiff_nil']
      exact .brk this
    have hi' : i < xs.length := by omega
    have gx : xs[i]? = some xs[i] := List.getElem?_eq_getElem hi'
    generalize hxe : xs[i] = x at gx
    have ae : Ex w 5 (defScope 18) (dSt xs ys i j m u) (dTry.headD (.Pass ⟨0, 0, 0, 0⟩)) .next (put (dSt xs ys i j m u) "e" (.fz (.str x))) :=
      ex_assign (ev_item (ev_name (by rfl)) (ev_name (by rfl)) (item_list (by omega) (getE xs gx) z1)) (asg_local (by rfl))
    by_cases ey : j = ys.length
    · have := d_caught w (m' := m) (u' := u) (i' := i) (j' := j) (by omega) (by omega) (xs := xs) (ys := ys) (i := i) (j := j) (m := m) (u := u)
        (exsR_to (exsR_cons ae.t (exsR_stop (exR_assign_item (ds := ys.map .str) (by rfl) (by rfl) (by rw [List.length_map, ey]) z2))) ⟨by rfl, by rfl, by rfl, by rfl, by rfl, by rfl, trivial⟩)
      have e1 : ys.drop j = [] := by rw [ey, List.drop_length]
      rw [e1] at this ⊢
      rw [mdiff_nil, mdiff_nil']
      exact .brk this
    have hj' : j < ys.length := by omega
    have gy : ys[j]? = some ys[j] := List.getElem?_eq_getElem hj'
    generalize hye : ys[j] = y at gy
    have dx : xs.drop i = x :: xs.drop (i + 1) := by rw [List.drop_eq_getElem_cons hi', hxe]
    have dy : ys.drop j = y :: ys.drop (j + 1) := by rw [List.drop_eq_getElem_cons hj', hye]
    have rx : Rising (x :: xs.drop (i + 1)) := dx ▸ hx.sublist (List.drop_sublist _ _)
    have ry : Rising (y :: ys.drop (j + 1)) := dy ▸ hy.sublist (List.drop_sublist _ _)
    have aa : Ex w 5 (defScope 18) (put (dSt xs ys i j m u) "e" (.fz (.str x))) (dTry.tail.headD (.Pass ⟨0, 0, 0, 0⟩)) .next (put (put (dSt xs ys i j m u) "e" (.fz (.str x))) "a" (.fz (.str y))) :=
      ex_assign (ev_item (ev_name (by rfl)) (ev_name (by rfl)) (item_list (by omega) (getE ys gy) z2)) (asg_local (by rfl))
    have nx : ∀ {x' : Str}, xs[i + 1]? = some x' → (x' == x) = false := fun {x'} h => by
      have hlt := (List.getElem?_eq_some_iff.mp h).1
      have : x' ∈ xs.drop (i + 1) := by
        rw [List.drop_eq_getElem_cons hlt, (List.getElem?_eq_some_iff.mp h).2]; exact List.mem_cons_self
      have := List.rel_of_pairwise_cons rx this
      rw [beq_eq_false_iff_ne]; exact (ltS_ne this).symm
    have ny : ∀ {y' : Str}, ys[j + 1]? = some y' → (y' == y) = false := fun {y'} h => by
      have hlt := (List.getElem?_eq_some_iff.mp h).1
      have : y' ∈ ys.drop (j + 1) := by
        rw [List.drop_eq_getElem_cons hlt, (List.getElem?_eq_some_iff.mp h).2]; exact List.mem_cons_self
      have := List.rel_of_pairwise_cons ry this
      rw [beq_eq_false_iff_ne]; exact (ltS_ne this).symm
    rw [dx, dy]
    rcases ltS_tri x y with hlt | hgt | heq
    · obtain ⟨e1, e2⟩ := mdiff_lt (xs := xs.drop (i + 1)) ry hlt
      rw [e1, e2, ← dy]
      have tr : ∀ {σ : St}, σ.lookup (Str.ofString "e") = some (.fz (.str x)) → σ.lookup (Str.ofString "a") = some (.fz (.str y)) → ∀ {p1 p2 p3 : Pos}, Tr w 5 (defScope 18) σ (.Compare (.Name "e" p1) [.Lt] [.Name "a" p2] p3) true σ := fun {σ} q1 q2 {p1 p2 p3} =>
        (tr_compare (ev_name q1) (ev_name q2) op_lt_str).to (decide_eq_true hlt)
      by_cases e : i + 1 = xs.length
      · have := d_caught w (m' := m ++ [x]) (u' := u) (i' := i + 1) (j' := j) (by rw [List.length_append]; simp; omega) (by omega) (xs := xs) (ys := ys) (i := i) (j := j) (m := m) (u := u)
          (exsR_to (exsR_cons ae.t (exsR_cons aa.t (exsR_stop (exR_if (b := true) (tr (by rfl) (by rfl)) (fun _ => exsR_cons (Ex.t (ex_append (ds := m.map .str) (by rfl) (ev_name (by rfl)) (by rfl) (z _ (by rw [List.length_map]; omega)) (by rfl)))
            (exsR_cons (Ex.t (ex_aug (by rfl) ev_int (by rfl) op_iadd_int (by rfl))) (exsR_stop (exR_while (ds := xs.map .str) (Nat.le_refl 5) (by rfl) (by rfl) (by rw [List.length_map]; omega) z1)))) (fun h => by cases h)))))
            ⟨by rfl, by rfl, by rw [← int_succ]; rfl, by rfl, by rw [List.map_append]; rfl, by rfl, trivial⟩)
        have e3 : xs.drop (i + 1) = [] := by rw [e, List.drop_length]
        rw [e3] at this ⊢
        rw [mdiff_nil, mdiff_nil']
        rw [List.append_nil] at this
        exact .brk this
      · have hi2 : i + 1 < xs.length := by omega
        have g2 : xs[i + 1]? = some xs[i + 1] := List.getElem?_eq_getElem hi2
        have t := d_next w (m' := m ++ [x]) (u' := u) (i' := i + 1) (j' := j) (xs := xs) (ys := ys) (i := i) (j := j) (m := m) (u := u)
          (exsT_cons ae.t (exsT_cons aa.t (exsT_cons (exT_if (b := true) (tr (by rfl) (by rfl)) (fun _ => exsT_cons (Ex.t (ex_append (ds := m.map .str) (by rfl) (ev_name (by rfl)) (by rfl) (z _ (by rw [List.length_map]; omega)) (by rfl)))
            (exsT_cons (Ex.t (ex_aug (by rfl) ev_int (by rfl) op_iadd_int (by rfl))) (exsT_cons (exT_while_no (xs := xs) (j := i + 1) (by rfl) (by rfl) (by simp) g2 (z _ (by omega)) (by rfl) (nx g2)) (Exs.t exs_keep)))) (fun h => by cases h))
            (Exs.t (exs_to ⟨by rfl, by rfl, by rw [← int_succ]; rfl, by rfl, by rw [List.map_append]; rfl, by rfl, trivial⟩)))))
        have r := ih ((xs.length - (i + 1)) + (ys.length - j)) (by omega) (i + 1) j (m ++ [x]) u rfl (by omega) hj (by rw [List.length_append]; simp; omega) hu
        rw [List.append_assoc] at r
        exact .next t r
    · obtain ⟨e1, e2⟩ := mdiff_lt (xs := ys.drop (j + 1)) rx hgt
      rw [e1, e2, ← dx]
      have tr1 : ∀ {σ : St}, σ.lookup (Str.ofString "e") = some (.fz (.str x)) → σ.lookup (Str.ofString "a") = some (.fz (.str y)) → ∀ {p1 p2 p3 : Pos}, Tr w 5 (defScope 18) σ (.Compare (.Name "e" p1) [.Lt] [.Name "a" p2] p3) false σ := fun {σ} q1 q2 {p1 p2 p3} =>
        (tr_compare (ev_name q1) (ev_name q2) op_lt_str).to (decide_eq_false (ltS_asymm hgt))
      have tr2 : ∀ {σ : St}, σ.lookup (Str.ofString "e") = some (.fz (.str x)) → σ.lookup (Str.ofString "a") = some (.fz (.str y)) → ∀ {p1 p2 p3 : Pos}, Tr w 5 (defScope 18) σ (.Compare (.Name "e" p1) [.Gt] [.Name "a" p2] p3) true σ := fun {σ} q1 q2 {p1 p2 p3} =>
        (tr_compare (ev_name q1) (ev_name q2) op_gt_str).to (decide_eq_true hgt)
      by_cases e : j + 1 = ys.length
      · have := d_caught w (m' := m) (u' := u ++ [y]) (i' := i) (j' := j + 1) (by omega) (by rw [List.length_append]; simp; omega) (xs := xs) (ys := ys) (i := i) (j := j) (m := m) (u := u)
          (exsR_to (exsR_cons ae.t (exsR_cons aa.t (exsR_stop (exR_if (b := false) (tr1 (by rfl) (by rfl)) (fun h => by cases h) (fun _ => exsR_stop (exR_if (b := true) (tr2 (by rfl) (by rfl)) (fun _ => exsR_cons (Ex.t (ex_append (ds := u.map .str) (by rfl) (ev_name (by rfl)) (by rfl) (z _ (by rw [List.length_map]; omega)) (by rfl)))
            (exsR_cons (Ex.t (ex_aug (by rfl) ev_int (by rfl) op_iadd_int (by rfl))) (exsR_stop (exR_while (ds := ys.map .str) (Nat.le_refl 5) (by rfl) (by rfl) (by rw [List.length_map]; omega) z2)))) (fun h => by cases h)))))))
            ⟨by rfl, by rfl, by rfl, by rw [← int_succ]; rfl, by rfl, by rw [List.map_append]; rfl, trivial⟩)
        have e3 : ys.drop (j + 1) = [] := by rw [e, List.drop_length]
        rw [e3] at this ⊢
        rw [mdiff_nil, mdiff_nil']
        rw [List.append_nil] at this
        exact .brk this
      · have hj2 : j + 1 < ys.length := by omega
        have g2 : ys[j + 1]? = some ys[j + 1] := List.getElem?_eq_getElem hj2
        have t := d_next w (m' := m) (u' := u ++ [y]) (i' := i) (j' := j + 1) (xs := xs) (ys := ys) (i := i) (j := j) (m := m) (u := u)
          (exsT_cons ae.t (exsT_cons aa.t (exsT_cons (exT_if (b := false) (tr1 (by rfl) (by rfl)) (fun h => by cases h) (fun _ => exsT_cons (exT_if (b := true) (tr2 (by rfl) (by rfl)) (fun _ => exsT_cons (Ex.t (ex_append (ds := u.map .str) (by rfl) (ev_name (by rfl)) (by rfl) (z _ (by rw [List.length_map]; omega)) (by rfl)))
            (exsT_cons (Ex.t (ex_aug (by rfl) ev_int (by rfl) op_iadd_int (by rfl))) (exsT_cons (exT_while_no (xs := ys) (j := j + 1) (by rfl) (by rfl) (by simp) g2 (z _ (by omega)) (by rfl) (ny g2)) (Exs.t exs_keep)))) (fun h => by cases h)) (Exs.t exs_keep)))
            (Exs.t (exs_to ⟨by rfl, by rfl, by rfl, by rw [← int_succ]; rfl, by rfl, by rw [List.map_append]; rfl, trivial⟩)))))
        have r := ih ((xs.length - i) + (ys.length - (j + 1))) (by omega) i (j + 1) m (u ++ [y]) rfl hi (by omega) hm (by rw [List.length_append]; simp; omega)
        rw [List.append_assoc] at r
        exact .next t r
    · subst heq
      rw [mdiff_eq rx, mdiff_eq ry]
      have tr1 : ∀ {σ : St}, σ.lookup (Str.ofString "e") = some (.fz (.str x)) → σ.lookup (Str.ofString "a") = some (.fz (.str x)) → ∀ {p1 p2 p3 : Pos}, Tr w 5 (defScope 18) σ (.Compare (.Name "e" p1) [.Lt] [.Name "a" p2] p3) false σ := fun {σ} q1 q2 {p1 p2 p3} =>
        (tr_compare (ev_name q1) (ev_name q2) op_lt_str).to (decide_eq_false (ltS_irrefl x))
      have tr2 : ∀ {σ : St}, σ.lookup (Str.ofString "e") = some (.fz (.str x)) → σ.lookup (Str.ofString "a") = some (.fz (.str x)) → ∀ {p1 p2 p3 : Pos}, Tr w 5 (defScope 18) σ (.Compare (.Name "e" p1) [.Gt] [.Name "a" p2] p3) false σ := fun {σ} q1 q2 {p1 p2 p3} =>
        (tr_compare (ev_name q1) (ev_name q2) op_gt_str).to (decide_eq_false (ltS_irrefl x))
      by_cases e : i + 1 = xs.length ∨ j + 1 = ys.length
      · have := d_caught w (m' := m) (u' := u) (i' := i + 1) (j' := j + 1) (by omega) (by omega) (xs := xs) (ys := ys) (i := i) (j := j) (m := m) (u := u)
          (exsR_to (exsR_cons ae.t (exsR_cons aa.t (exsR_stop (exR_if (b := false) (tr1 (by rfl) (by rfl)) (fun h => by cases h) (fun _ => exsR_stop (exR_if (b := false) (tr2 (by rfl) (by rfl)) (fun h => by cases h) (fun _ =>
            exsR_cons (Ex.t (ex_aug (by rfl) ev_int (by rfl) op_iadd_int (by rfl))) (exsR_stop (by
              by_cases ei : i + 1 = xs.length
              · refine exR_final_r (xs := xs) (ys := ys) (i2 := (j : Int)) (j2 := j + 1) (t2 := x) (Nat.le_refl 5) (by rfl) (by rfl) (by omega) (z _ (by omega)) (by rfl) (by rfl) (by simp) (z _ (by omega)) (by rfl) ?_ (by rfl)
                by_cases ej : j + 1 = ys.length
                · exact .inr ej
                · have hj2 : j + 1 < ys.length := by omega
                  have g2 : ys[j + 1]? = some ys[j + 1] := List.getElem?_eq_getElem hj2
                  exact .inl ⟨_, g2, ny g2⟩
              · have hi2 : i + 1 < xs.length := by omega
                have g2 : xs[i + 1]? = some xs[i + 1] := List.getElem?_eq_getElem hi2
                exact exR_final_nr (xs := xs) (ys := ys) (i2 := (j : Int)) (j := i + 1) (Nat.le_refl 5) (by rfl) (by rfl) (by simp) g2 (z _ (by omega)) (by rfl) (nx g2) (by rfl) (by rfl) (by omega) (z _ (by omega)) (by rfl))))))))))
            ⟨by rfl, by rfl, by rw [← int_succ]; rfl, by rw [← int_succ]; rfl, by rfl, by rfl, trivial⟩)
        rcases e with e | e
        · have e3 : xs.drop (i + 1) = [] := by rw [e, List.drop_length]
          rw [e3] at this ⊢
          rw [mdiff_nil, mdiff_nil']
          exact .brk this
        · have e3 : ys.drop (j + 1) = [] := by rw [e, List.drop_length]
          rw [e3] at this ⊢
          rw [mdiff_nil, mdiff_nil']
          exact .brk this
      · have hi2 : i + 1 < xs.length := by omega
        have hj2 : j + 1 < ys.length := by omega
        have g1 : xs[i + 1]? = some xs[i + 1] := List.getElem?_eq_getElem hi2
        have g2 : ys[j + 1]? = some ys[j + 1] := List.getElem?_eq_getElem hj2
        have t := d_next w (m' := m) (u' := u) (i' := i + 1) (j' := j + 1) (xs := xs) (ys := ys) (i := i) (j := j) (m := m) (u := u)
          (exsT_cons ae.t (exsT_cons aa.t (exsT_cons (exT_if (b := false) (tr1 (by rfl) (by rfl)) (fun h => by cases h) (fun _ => exsT_cons (exT_if (b := false) (tr2 (by rfl) (by rfl)) (fun h => by cases h) (fun _ =>
            exsT_cons (Ex.t (ex_aug (by rfl) ev_int (by rfl) op_iadd_int (by rfl))) (exsT_cons (exT_final_nn (xs := xs) (ys := ys) (i2 := (j : Int)) (j := i + 1) (j2 := j + 1) (by rfl) (by rfl) (by simp) g1 (z _ (by omega)) (by rfl) (nx g1) (by rfl) (by rfl) (by simp) g2 (z _ (by omega)) (by rfl) (ny g2) (by rfl)) (Exs.t exs_keep)))) (Exs.t exs_keep)))
            (Exs.t (exs_to ⟨by rfl, by rfl, by rw [← int_succ]; rfl, by rw [← int_succ]; rfl, by rfl, by rfl, trivial⟩)))))
        have r := ih ((xs.length - (i + 1)) + (ys.length - (j + 1))) (by omega) (i + 1) (j + 1) m u rfl (by omega) (by omega) (by omega) (by omega)
        exact .next t r
theorem c_diff (w : World) (xs ys : List Str) (hx : Rising xs) (hy : Rising ys) (lx : xs.length ≤ 1000) (ly : ys.length ≤ 1000) :
    Contract w 6 (.ref 134) [.list (xs.map .str), .list (ys.map .str)] (.tup [.list ((mdiff xs ys).map .str), .list ((mdiff ys xs).map .str)]) := by
  obtain ⟨fd, X, hb⟩ := fn_sorted_list_difference w
  refine contract_defT (k := 5) X [Str.ofString "expected", Str.ofString "actual"] hb rfl (by decide) (by rfl) ⟨rfl, rfl, rfl⟩ ?_
  refine exsT_cons (Ex.t (ex_assign_two ev_int (asg_local (by rfl)) (asg_local (by rfl)))) ?_
  refine exsT_cons (Ex.t (ex_assign_own (evN_list evs_nil) (by rfl))) ?_
  refine exsT_cons (Ex.t (ex_assign_own (evN_list evs_nil) (by rfl))) ?_
  have r := d_runs w xs ys hx hy lx ly _ 0 0 [] [] rfl (Nat.zero_le _) (Nat.zero_le _) (Nat.le_refl _) (Nat.le_refl _)
  rw [List.drop_zero, List.drop_zero, List.nil_append, List.nil_append] at r
  refine exsT_cons (σ₁ := dEnd (mdiff xs ys) (mdiff ys xs)) ?_ ?_
  · exact exT_sub (σ₁ := dSt xs ys 0 0 [] []) ⟨by rfl, by rfl, by rfl, by rfl, by rfl, by rfl, trivial⟩ (exT_while_runs (body := dWhile) tr_true r)
  · refine Exs.t (exs_freeze "missing" (by rfl) (exs_freeze "unexpected" (by rfl) ?_))
    exact exs_stop (ex_return (ev_tuple (evs_cons (ev_name (by rfl)) (evs_cons (ev_name (by rfl)) evs_nil)))) (by intro h; cases h)
end
end Mine
end

noncomputable section
open PySem PySem.W PyProof.Rows PySem.SeqAt
namespace Mine
/-! the set that holds True alone -/
noncomputable def setLed (w : World) : Bool := !w.params.followText "set-order"
noncomputable def setT (w : World) : SetTable := { mask := 7, place := #[1], dummies := #[], finger := 0, led := setLed w, moves := 0, plain := true }
noncomputable def setO (w : World) : Bool → Obj
  | false => { cls := .type "set", dict := none, data := .set #[] 0 (.fresh 0 0 (setLed w)) }
  | true => { cls := .type "set", dict := none, data := .set #[(1, .bool true)] 1 (setT w) }
theorem layNew_true (led : Bool) : layNew (SetTable.fresh 0 0 led) #[] 1 (.bool true) = (#[(1, .bool true)], { mask := 7, place := #[1], dummies := #[], finger := 0, led := led, moves := 0, plain := true }, false, false) := by
  cases led <;> rfl
section
variable {w : World} {A : Around} {E : Value → Shared → Prop} {s : Shared} {G : Addr}

theorem newSet_any {Q : Value → Shared → Prop} (h : Q (.ref s.heap.objs.size) { s with heap := s.heap.push (setO w false) }) : wpAny (MM w) A (newSet (.type "set")) Q E s := by
  unfold newSet setsByText
  refine wpAny_bind (wpAny_bind (wpAny_askSetting (wpAny_pure ?_)))
  dsimp only
  simp only [newObj]
  exact wpAny_bind (wpAny_alloc (wpAny_pure h))
theorem pyHash_true {Q : Int → Shared → Prop} (hu : A.units < cLine) (h : Q 1 { s with toks := s.toks + 1 }) : wpAny (MM w) A (pyHash (.bool true)) Q E s := by
  show wpAny (MM w) A (pyHashByItsType (.bool true)) Q E s
  exact pyHash_slot (T := "bool") rfl F.slot_bool_hash entry_int_hash (args_int_hash _) (beq_builtin_none _) (.inr hu) (show wpAny _ _ (do ret (← mkInt 1)) _ _ s from wpAny_bind (wpAny_mkInt (wpAny_pure ⟨_, _, rfl, h⟩)))
theorem eqBool_true {Q : Bool → Shared → Prop} (h : Q true s) : wpAny (MM w) A (eqBool (.bool true) (.bool true)) Q E s := by
  unfold eqBool
  refine wpAny_holding ?_
  rw [if_pos (by decide)]
  exact wpAny_bind (wpAny_rule (wpAny_pure h))
theorem setState0 {Q : (Array (Int × Value) × Nat × SetTable) → Shared → Prop} (hG : s.heap.get? G = some (setO w false)) (h : Q (#[], 0, .fresh 0 0 (setLed w)) s) : wpAny (MM w) A (setState G) Q E s :=
  wpAny_setState_of hG rfl (by rfl) h
theorem setState1 {Q : (Array (Int × Value) × Nat × SetTable) → Shared → Prop} (hG : s.heap.get? G = some (setO w true)) (h : Q (#[(1, .bool true)], 1, setT w) s) : wpAny (MM w) A (setState G) Q E s :=
  wpAny_setState_of hG rfl (by rfl) h

theorem setAdd0 {Q : Bool → Shared → Prop} (hG : s.heap.get? G = some (setO w false)) (h : ∀ h', Heap.SameBut G s.heap h' → h'.get? G = some (setO w true) → Q true { s with heap := h' }) :
    wpAny (MM w) A (setAddHashed G (.bool true) 1) Q E s := by
  unfold setAddHashed setAddHashedIn
  refine wpAny_holding (wpAny_bind (setState0 hG ?_))
  dsimp only
  rw [if_pos (show byScan (.bool true) #[] = true from by decide +kernel)]
  unfold setAddByScan
  refine wpAny_bind (wpAny_bind (wpAny_rule ?_))
  refine wpAny_bind (wpAny_pure ?_)
  dsimp only
  rw [layNew_true]
  dsimp only
  refine wpAny_bind (wpAny_pure ?_)
  rw [if_pos rfl]
  refine wpAny_bind (wpAny_pure ?_)
  rw [if_pos rfl]
  have e : Obj.putSet #[(1, .bool true)] { mask := 7, place := #[1], dummies := #[], finger := 0, led := setLed w, moves := 0, plain := true } (setO w false) = setO w true := rfl
  refine wpAny_bind (wpAny_storeSet_of hG rfl ?_ (by rw [sizeLine_eq]; decide))
  rw [if_neg (show ¬ (!false && SetTable.tooFull { mask := 7, place := #[1], dummies := #[], finger := 0, led := setLed w, moves := 0, plain := true }) = true from by unfold SetTable.tooFull SetTable.fill; simp)]
  refine wpAny_pure (wpAny_pure (h _ (Heap.SameBut.update ..) ?_))
  have := Heap.get?_update_self (Obj.putSet #[(1, .bool true)] { mask := 7, place := #[1], dummies := #[], finger := 0, led := setLed w, moves := 0, plain := true }) hG rfl
  rw [this, e]
theorem setAdd1 {Q : Bool → Shared → Prop} (hG : s.heap.get? G = some (setO w true)) (h : Q false s) : wpAny (MM w) A (setAddHashed G (.bool true) 1) Q E s := by
  unfold setAddHashed setAddHashedIn
  refine wpAny_holding (wpAny_bind (setState1 hG ?_))
  dsimp only
  rw [if_pos (show byScan (.bool true) #[(1, .bool true)] = true from by decide +kernel)]
  unfold setAddByScan
  refine wpAny_bind (wpAny_bind (wpAny_rule ?_))
  unfold setScan
  dsimp only
  unfold setScanFrom
  refine wpAny_bind ?_
  rw [if_pos (by decide)]
  refine wpAny_bind ?_
  unfold setEpoch
  refine wpAny_bind (setState1 hG (wpAny_pure ?_))
  refine wpAny_bind (eqBool_true ?_)
  rw [if_pos (by decide)]
  exact wpAny_pure (wpAny_pure (wpAny_pure h))
theorem call_set_add_true {b : Bool} {Q : Value → Shared → Prop} (hu : A.in1.units < cLine) (hG : s.heap.get? G = some (setO w b)) (h : ∀ h' tk, Heap.SameBut G s.heap h' → h'.get? G = some (setO w true) → Q .none { s with heap := h', toks := tk }) :
    wpAny (MM w) A (call (.builtin "set.add") [.ref G, .bool true]) Q E s := by
  have hT : s.TypeIs (.ref G) "set" := ⟨_, hG, by cases b <;> rfl⟩
  refine wpAny_call_entry F.slot_set_add hT F.entry_set_add ?_ (F.args_set_add_2 _ _)
  unfold Builtin.«set.add» Builtin.Frozenset.oneOther
  simp only [List.isEmpty_nil, bind_assoc]
  unfold Builtin.Frozenset.addrOf setAdd
  refine wpAny_bind (wpAny_pure ?_)
  try dsimp only
  refine wpAny_bind (wpAny_pure ?_)
  try dsimp only
  refine wpAny_bind ?_
  refine wpAny_holding ?_
  refine wpAny_bind (pyHash_true hu ?_)
  cases b with
  | false =>
    refine setAdd0 (s := { s with toks := s.toks + 1 }) hG fun h' hs hg => ?_
    show wpAny _ _ (ret Value.none) _ _ _
    exact wpAny_pure ⟨_, rfl, h h' _ hs hg⟩
  | true =>
    refine setAdd1 (s := { s with toks := s.toks + 1 }) hG ?_
    show wpAny _ _ (ret Value.none) _ _ _
    exact wpAny_pure ⟨_, rfl, h s.heap _ (.refl ..) hG⟩

theorem slot_setit_next : PySem.Slot "set_iterator" "__next__" "set_iterator.__next__" :=
  PySem.Slot.of (owner := "set_iterator") (n := "__next__") (by rw [typeLookup_type, builtinLookup_eq_fast]; kernel_rfl) (by decide +kernel) (by decide +kernel) (by decide +kernel)
    (by first | exact .inl (by decide +kernel) | exact .inr (by decide +kernel)) (by rw [isSubtype_type]; kernel_rfl)
theorem entry_setit_next : entryFor table "set_iterator.__next__" = some Builtin.«set_iterator.__next__» := entryFor_of_tree (by kernel_rfl)
theorem args_setit_next (a : Value) : argsOk "set_iterator.__next__" ⟨[a], []⟩ := by
  unfold argsOk; kernel_rfl
theorem entry_set_iter : entryFor table "set.__iter__" = some Builtin.«frozenset.__iter__» :=
  entryFor_alias (id' := "frozenset.__iter__") (by kernel_rfl) rfl (by decide +kernel) (by kernel_rfl)
end
end Mine
end

noncomputable section
open PySem PySem.W PyProof.Rows PySem.SeqAt
namespace Mine
section
variable {w : World} {A : Around} {E : Value → Shared → Prop} {s : Shared} {G I : Addr}
noncomputable def setIt (G : Addr) (slot i : Int) : Obj := { cls := .type "set_iterator", data := .fields #[rawInt slot, rawInt i, .ref G, rawInt 1, rawInt 1] }

theorem pick_go (next : Nat → Nat) (x : Int × Value) : pickOrder.go next 1 0 [x] #[] = (match ([x] : List (Int × Value))[next 0 % [x].length]? with | some y => pickOrder.go next 0 1 (([x] : List (Int × Value)).eraseIdx (next 0 % [x].length)) ((#[] : Array (Int × Value)).push y) | none => #[]) := by kernel_rfl
theorem pick_one (next : Nat → Nat) (x : Int × Value) : pickOrder next #[x] = #[x] := by
  have e : next 0 % 1 = 0 := Nat.mod_one _
  refine (pick_go next x).trans ?_
  show (match ([x] : List (Int × Value))[next 0 % 1]? with | some y => pickOrder.go next 0 1 (([x] : List (Int × Value)).eraseIdx (next 0 % 1)) ((#[] : Array (Int × Value)).push y) | none => #[]) = _
  rw [e]; rfl
theorem draw_zero (it : Value) : draw it 0 = pure [] := rfl
theorem draw_succ (it : Value) (n : Nat) : draw it (n + 1) = (pyNext it >>= fun r => match r with | none => pure [] | some v => holding [v] (draw it n) >>= fun vs => pure (v :: vs)) := rfl

theorem setDrawn_one {Q : Bool → Shared → Prop} (hG : s.heap.get? G = some (setO w true)) (h : Q false s) : wpAny (MM w) A (setDrawn G) Q E s := by
  unfold setDrawn
  refine wpAny_bind (setState1 hG ?_)
  dsimp only
  unfold setsByText
  refine wpAny_bind (wpAny_bind (wpAny_askSetting (wpAny_pure (wpAny_pure ?_))))
  have : ∀ b : Bool, (b && false) = false := by decide
  have e : (!(MM w).w.params.followText "set-order" && (!true && decide ((#[((1 : Int), Value.bool true)] : Array (Int × Value)).size > 1))) = false := by simp
  exact (show Q (!(MM w).w.params.followText "set-order" && (!true && decide ((#[((1 : Int), Value.bool true)] : Array (Int × Value)).size > 1))) s from e ▸ h)

theorem pyIter_set {Q : Value → Shared → Prop} (hG : s.heap.get? G = some (setO w true)) (h : Q (.ref s.heap.objs.size) { s with heap := s.heap.push (setIt G 0 0) }) : wpAny (MM w) A (pyIter (.ref G)) Q E s := by
  have hT : s.TypeIs (.ref G) "set" := ⟨_, hG, rfl⟩
  refine wpAny_pyIter_slot hT F.slot_set_iter (wpAny_call_entry F.slot_set_iter hT entry_set_iter ?_ (F.args_set_iter_1 _))
  unfold Builtin.«frozenset.__iter__»
  refine wpAny_bind (wpAny_of_eq (a := G) rfl ?_)
  unfold Builtin.Frozenset.sizeOf setEntries
  refine wpAny_bind (wpAny_bind (wpAny_bind (setState1 hG (wpAny_pure (wpAny_pure ?_)))))
  refine wpAny_bind (setDrawn_one hG ?_)
  rw [if_neg (by decide)]
  refine wpAny_bind (wpAny_pure ?_)
  unfold setEpoch
  refine wpAny_bind (wpAny_bind (setState1 hG (wpAny_pure ?_)))
  unfold newFields
  refine wpAny_bind (wpAny_newObj_type ?_)
  exact wpAny_pure ⟨_, rfl, "set_iterator", _, ⟨_, Heap.get?_push_size _ rfl, rfl⟩, slot_setit_next.lookup, h⟩

theorem setNext_one {i : Nat} {k : Nat} {Q : Option (Value × Nat) → Shared → Prop} (hG : s.heap.get? G = some (setO w true)) (hk : (k = 0 ∧ i = 0) ∨ (2 ≤ k ∨ setLed w = false) ∧ i = 1)
    (h : ∀ j, (i = 0 → 2 ≤ j ∨ setLed w = false) → Q (if i = 0 then some (.bool true, j) else none) s) : wpAny (MM w) A (setNext G k i 1) Q E s := by
  unfold setNext
  refine wpAny_bind (setState1 hG ?_)
  dsimp only
  unfold setsByText
  refine wpAny_bind (wpAny_bind (wpAny_askSetting (wpAny_pure ?_)))
  cases hb : w.params.followText "set-order" with
  | true =>
    rw [if_pos (show (MM w).w.params.followText "set-order" = true from hb)]
    rw [if_neg (by decide)]
    refine wpAny_bind ?_
    unfold setWalk
    refine wpAny_bind (setState1 hG ?_)
    dsimp only
    unfold setsByText
    refine wpAny_bind (wpAny_bind (wpAny_askSetting (wpAny_pure ?_)))
    rw [if_pos (show (MM w).w.params.followText "set-order" = true from hb)]
    refine wpAny_bind (wpAny_askSetting (wpAny_pure ?_))
    rw [pick_one]
    have l : setLed w = false := by unfold setLed; rw [hb]; rfl
    have := h k fun _ => .inr l
    rcases hk with ⟨_, rfl⟩ | ⟨_, rfl⟩
    · exact wpAny_pure this
    · exact wpAny_pure this
  | false =>
    rw [if_neg (show ¬ (MM w).w.params.followText "set-order" = true from by show ¬ w.params.followText "set-order" = true; rw [hb]; decide)]
    have l : setLed w = true := by unfold setLed; rw [hb]; rfl
    split
    · rename_i q; exact absurd q Bool.false_ne_true
    · refine wpAny_bind ?_
      show wpAny _ _ (if (!setLed w && !(#[((1 : Int), Value.bool true)] : Array (Int × Value)).isEmpty) = true then unsupported "set:maker-not-led" else pure ()) _ _ _
      rw [l, if_neg (by decide)]
      refine wpAny_pure (wpAny_pure ?_)
      rcases hk with ⟨rfl, rfl⟩ | ⟨hk, rfl⟩
      · exact h 2 fun _ => .inl (Nat.le_refl 2)
      · have hk : 2 ≤ k := hk.resolve_right (by rw [l]; decide)
        have hb : SetTable.below (setT w).place k = 1 := by
          show (if 0 < 1 then (if (#[1] : Array Nat).getD ((0 + 1) / 2) k < k then SetTable.below.go #[1] k 0 ((0 + 1) / 2 + 1) 1 else SetTable.below.go #[1] k 0 0 ((0 + 1) / 2)) else 0) = 1
          rw [if_pos (by decide), if_pos (show (#[1] : Array Nat).getD ((0 + 1) / 2) k < k from by show 1 < k; omega)]
          rfl
        rw [hb]
        exact h 0 fun q => by cases q

/-- the iterator hands on True, once -/
theorem next_set {k i : Nat} {Q : Option Value → Shared → Prop} (hh : A.handled = none) (hG : s.heap.get? G = some (setO w true)) (hI : s.heap.get? I = some (setIt G k i)) (hne : I ≠ G) (hk : (k = 0 ∧ i = 0) ∨ (2 ≤ k ∨ setLed w = false) ∧ i = 1)
    (h0 : i = 0 → ∀ h' j, Heap.SameBut I s.heap h' → h'.get? I = some (setIt G (j : Nat) 1) → (2 ≤ j ∨ setLed w = false) → Q (some (.bool true)) { s with heap := h' })
    (h1 : i = 1 → ∀ h', Heap.ExtBut I s.heap h' → Q none { s with heap := h' }) : wpAny (MM w) A (pyNext (.ref I)) Q E s := by
  have hT : s.TypeIs (.ref I) "set_iterator" := ⟨_, hI, rfl⟩
  unfold pyNext
  refine wpAny_bind (wpAny_attempt (wpAny_callSpecial?_slot (name := Str.ofString "__next__") hT slot_setit_next (wpAny_call_entry slot_setit_next hT entry_setit_next ?_ (args_setit_next _))))
  unfold Builtin.«set_iterator.__next__»
  refine wpAny_bind (wpAny_pure ?_)
  refine wpAny_bind (wpAny_fieldsOf hI rfl ?_)
  dsimp only [rawInt]
  refine wpAny_bind ?_
  unfold setEntries
  refine wpAny_bind (setState1 hG (wpAny_pure ?_))
  rw [if_neg (by simp)]
  refine wpAny_bind (setNext_one hG (by simpa using hk) fun j hj => ?_)
  rcases hk with ⟨rfl, rfl⟩ | ⟨hk, rfl⟩
  · show wpAny _ _ (setField (.ref I) 0 (rawInt j) >>= fun _ => setField (.ref I) 1 (rawInt 1) >>= fun _ => ret (.bool true)) _ _ s
    refine wpAny_bind (wpAny_setField hI rfl (by simp) ?_)
    have g1 := Heap.get?_update_self (Obj.mapFields (·.setIfInBounds 0 (rawInt j))) hI rfl
    refine wpAny_bind (wpAny_setField g1 rfl (by simp) ?_)
    have g2 := Heap.get?_update_self (Obj.mapFields (·.setIfInBounds 1 (rawInt 1))) g1 rfl
    refine wpAny_pure ⟨_, rfl, wpAny_pure (h0 rfl _ j ((Heap.SameBut.update ..).trans (Heap.SameBut.update ..)) ?_ (hj rfl))⟩
    rw [g2]
    rfl
  · show wpAny _ _ (setField (.ref I) 2 .none >>= fun _ => newExc (.type "StopIteration") [] >>= fun e => raiseNew e) _ _ s
    refine wpAny_bind (wpAny_setField hI rfl (by simp) ?_)
    have e1 : Heap.ExtBut I s.heap (s.heap.update I (Obj.mapFields (·.setIfInBounds 2 Value.none))) := fun b o hb e => (Heap.get?_update_other _ _ (Ne.symm hb)).trans e
    refine wpAny_bind ?_
    simp only [newExc, newTuple]
    refine wpAny_bind (wpAny_newObj_type ?_ (by size_fits))
    refine wpAny_bind (m := firstArgMember _ _) (wpAny_of_eq (a := Value.none) (by first | rfl | (simp only [firstArgMember]; rfl)) ?_)
    refine wpAny_newObj_type ?_ (by size_fits)
    simp only [raiseNew]
    refine wpAny_bind (wpAny_handled ?_)
    rw [show A.in1.handled = none from hh]
    refine wpAny_bind (wpAny_pure (wpAny_throw ?_))
    refine wpAny_bind (wpAny_isInstance (T := "StopIteration") (b := true) ⟨_, Heap.get?_push_size _ rfl, rfl⟩ isSubtype_stop ?_)
    refine wpAny_pure (h1 rfl _ fun b o hb e => Heap.get?_push_of_some _ (Heap.get?_push_of_some _ (e1 b o hb e)))

theorem unpack_set {f : Value → Sem Unit} {Q : Unit → Shared → Prop} (hh : A.handled = none) (hG : s.heap.get? G = some (setO w true))
    (h : ∀ h', Le s.heap h' → wpAny (MM w) A (f (.bool true)) Q E { s with heap := h' }) : wpAny (MM w) A (unpack (.ref G) [(false, f)]) Q E s := by
  have hT : s.TypeIs (.ref G) "set" := ⟨_, hG, rfl⟩
  unfold unpack
  refine wpAny_bind (wpAny_holding ?_)
  show wpAny _ _ (unpackItems (.ref G) 1 none) _ _ _
  unfold unpackItems
  refine wpAny_bind ?_
  unfold notIterableAtAll
  refine wpAny_bind (wpAny_specialOf hT F.slot_set_iter.lookup ?_)
  refine wpAny_pure ?_
  simp only [Bool.false_eq_true, if_false]
  refine wpAny_bind (wpAny_holding (pyIter_set hG ?_))
  have nI := get_size s.heap
  have l := Le.push s.heap (setIt G 0 0)
  have ne : s.heap.objs.size ≠ G := fun q => nomatch (q ▸ nI).symm.trans hG
  refine wpAny_bind (wpAny_holding ?_)
  rw [draw_succ]
  refine wpAny_bind (next_set (k := 0) (i := 0) hh (l _ _ hG) (Heap.get?_push_size _ rfl) ne (.inl ⟨rfl, rfl⟩) (fun _ h' j sb g hj => ?_) (fun q => by cases q))
  refine wpAny_bind (wpAny_holding ?_)
  rw [draw_zero]
  refine wpAny_pure (wpAny_pure ?_)
  rw [if_neg (by simp)]
  have l' : Le s.heap h' := fun b o e => (sb.2 b fun q => nomatch (q ▸ nI).symm.trans e).trans (l b o e)
  refine wpAny_bind (wpAny_holding (next_set (k := j) (i := 1) hh (l' _ _ hG) g ne (.inr ⟨hj, rfl⟩) (fun q => by cases q) fun _ h'' eb => ?_))
  simp only [Option.isSome_none, Bool.false_eq_true, if_false]
  refine wpAny_pure ?_
  show wpAny _ _ (assignInOrder [f] [.bool true]) _ _ _
  refine wpAny_bind (wpAny_holding (wpAny_mono (h h'' fun b o e => eb b o (fun q => nomatch (q ▸ nI).symm.trans e) (l' b o e)) (fun _ _ q => wpAny_pure q) fun _ _ e => e))
end
end Mine
end

noncomputable section
open PySem PySem.W PyProof.Rows PySem.SeqAt
namespace Mine
section
variable {w : World} {k : Nat} {A : Around} {sc : Scope} {F : FrS} {h₀ R R' R'' h h' : Heap} {σ σ' σ₁ σ₂ σ₃ : St} {s s' s'' : Shared} {fn : Prop} {wr : List Addr}
/-- the set that a comprehension fills -/
noncomputable def AccS (w : World) (G : Addr) (b : Bool) (R h : Heap) : Prop := h.get? G = some (setO w b)
theorem AccS.move {G : Addr} {ds : Bool} (a : AccS w G ds R h) (e : ∀ o, h.get? G = some o → h'.get? G = some o) (l : Le R R') : AccS w G ds R' h' := e _ a
/-- the state between two turns of a comprehension -/
structure CStS (w : World) (A : Around) (sc : Scope) (F : FrS) (h₀ R : Heap) (s : Shared) (σ : St) (wr : List Addr) (G : Addr) (ds : Bool) (R' : Heap) (s' : Shared) : Prop where
  st : Step h₀ R R' s s'
  S : Sat w A sc F h₀ σ R' s'
  Y : DynW sc F σ R' s'.heap (G :: wr)
  a : AccS w G ds R' s'.heap

theorem CStS.add {G : Addr} {b : Bool} (C : CStS w A sc F h₀ R s σ wr G b R' s') (O : OffW A F h₀ (G :: wr)) (hG : G ∉ wr) (rm : Room k A) {Q : Value → Shared → Prop} {E : Value → Shared → Prop}
    (h : ∀ h' tk, Heap.SameBut G s'.heap h' → CStS w A sc F h₀ R s σ wr G true R' { s' with heap := h', toks := tk } → Q .none { s' with heap := h', toks := tk }) : wpAny (MM w) A (call (.builtin "set.add") [.ref G, .bool true]) Q E s' := by
  refine call_set_add_true (by have := rm.c; simp; omega) C.a fun h' tk sb e => h h' tk sb ?_
  have k : ∀ b o, b ∉ G :: wr → s'.heap.get? b = some o → h'.get? b = some o := fun b o nb z => (sb.2 b fun q => nb (q ▸ List.mem_cons_self)).trans z
  obtain ⟨S₁, Y₁⟩ := C.S.growBut (t := tk) (d := s'.drawn) O C.Y (.of k) (.refl _) (fun b o e => k b o (fun q => nomatch (C.Y.r b q).symm.trans e) (C.S.ext b o e)) fun b o e => .inl e
  refine ⟨C.st.trans .heap, S₁, Y₁ (fun a ha => ?_) C.Y.r, e⟩
  rcases List.mem_cons.mp ha with q | ha
  · subst q; exact ⟨_, e⟩
  · obtain ⟨o, ho⟩ := C.Y.live a (List.mem_cons_of_mem _ ha)
    exact ⟨o, (sb.2 a fun q => hG (q ▸ ha)).trans ho⟩

/-- a step of the inner frame -/
theorem CStS.jd {α : Type} {t : Env → Sem α} {K : Heap → α → Prop} {G : Addr} {ds : Bool} (C : CStS w A sc F h₀ R s σ wr G ds R' s') (O : OffW A F h₀ (G :: wr)) (rm : Room k A) (h : Jd w k sc σ t K σ') {Q : α → Shared → Prop} {E : Value → Shared → Prop}
    (n : ∀ v R'' s'', CStS w A sc F h₀ R s σ' wr G ds R'' s'' → Step h₀ R' R'' s' s'' → (∀ b ∈ wr, ∀ o, s'.heap.get? b = some o → s''.heap.get? b = some o) → K R'' v → Q v s'') : wpAny (MM w) A (t (mkEnv sc F)) Q E s' := by
  refine wpAny_mono (run_locked C.S O C.Y fun SL => h A F _ R' s' rm SL) ?_ fun _ _ e => e.elim
  rintro v s'' ⟨R'', st, S'', Y'', pw, q⟩
  exact n v R'' s'' ⟨C.st.trans st, S'', Y'', C.a.move (pw G List.mem_cons_self) st.le⟩ st (fun b hb => pw b (List.mem_cons_of_mem _ hb)) q
theorem codeAny_compLoop_bodyS {elt target : PySem.Expr} {gens : List Comprehension} {scope : Scope} {pos : Pos} {dp : Nat} {ip : Pos} {it acc : Value} {env : Env} {body : Sem Unit} {R : Result → Shared → Prop} (I : Nat → Shared → Prop)
    (heq : compTurn (.SetComp elt gens scope pos) dp it acc env = (standAt ip >>= fun _ => pyNext it >>= fun r => match r with
      | none => pure (.done .next)
      | some v => letOwnedTupleGo target it v >>= fun _ => assign target env v >>= fun _ => body >>= fun _ => again (.compLoop (.SetComp elt gens scope pos) dp it acc env)))
    (turn : ∀ n s, I n s → wpAny (MM w) A (pyNext it) (fun r s₁ => match r with
      | none => R (.ok .next) s₁
      | some v => wpAny (MM w) A (assign target env v) (fun _ s₂ => wpAny (MM w) A body (fun _ s₃ => ∃ m, m < n ∧ I m s₃) (notedBy (MM w) A env fun x s' => R (.error x) s') s₂) (notedBy (MM w) A env fun x s' => R (.error x) s') s₁) (notedBy (MM w) A env fun x s' => R (.error x) s') s)
    (n : Nat) (h : I n s) (ht : ∀ v, letOwnedTupleGo target it v = pure ()) : codeAny (MM w) A (.compLoop (.SetComp elt gens scope pos) dp it acc env) R s := by
  refine codeAny_loop rfl I (fun n s hI => ?_) n h
  show wpAny _ A ((compTurn (.SetComp elt gens scope pos) dp it acc env).onRaise (fun x => do noteFrame x env; theTreesLotGoes x)) _ _ s
  refine wpAny_noted ?_
  rw [heq]
  refine wpAny_bind (wpAny_standAt (wpAny_bind (wpAny_mono (turn n s hI) (fun r s₁ h₁ => ?_) fun _ _ h' => h')))
  cases r with
  | none => exact wpAny_pure h₁
  | some v =>
    refine wpAny_bind (wpAny_of_eq (ht v) ?_)
    exact wpAny_bind (wpAny_mono h₁ (fun _ s₂ h₂ => wpAny_bind (wpAny_mono h₂ (fun ok s₃ h₃ => wpAny_pure ⟨rfl, h₃⟩) fun _ _ h' => h')) fun _ _ h' => h')

/-- what a comprehension's turn does with its list -/
noncomputable def BodyS (w : World) (k : Nat) (sc : Scope) (σ : St) (body : Env → Value → Sem Unit) (ds : Bool) (σ' : St) (ds' : Bool) : Prop :=
  ∀ (A : Around) (F : FrS) (h₀ R R' : Heap) (s s' : Shared) (G : Addr) (wr : List Addr) (Q : Unit → Shared → Prop) (E : Value → Shared → Prop), Fresh F h₀ → Room k A → OffW A F h₀ (G :: wr) → G ∉ wr → CStS w A sc F h₀ R s σ wr G ds R' s' →
    (∀ R'' s'', CStS w A sc F h₀ R s σ' wr G ds' R'' s'' → Le R' R'' → (∀ b ∈ wr, ∀ o, s'.heap.get? b = some o → s''.heap.get? b = some o) → Q () s'') → wpAny (MM w) A (body (mkEnv sc F) (.ref G)) Q E s'

theorem body_emitS {elt : PySem.Expr} {b : Bool} (h : Ev w k sc σ elt (.bool true) σ') :
    BodyS w k sc σ (fun env acc => eval elt env >>= fun x => standAt elt.pos >>= fun _ => call (.builtin "set.add") [acc, x] >>= fun _ => pure ()) b σ' true := fun A F h₀ R R' s s' G wr Q E lh rm O hG C hq =>
  wpAny_bind (C.jd (t := fun env => eval elt env) (K := fun R' v => Rep w R' (.bool true) v) O rm h fun x R₇ s₇ C₇ st₇ pw₇ r₇ => wpAny_bind (wpAny_standAt (wpAny_bind (by
    cases r₇ with
    | bool b => exact C₇.add O hG rm fun h₈ tk sb C₈ => wpAny_pure (hq _ _ C₈ st₇.le fun b hb o e => (sb.2 b fun q => hG (q ▸ hb)).trans (pw₇ b hb o e))))))

/-- a comprehension's loop, whatever its turn does -/
theorem comp_loopS {elt target : PySem.Expr} {gens : List Comprehension} {scope : Scope} {pos : Pos} {dp : Nat} {ip : Pos} {I G : Addr} {n : Nat} {ds : Nat → D} {St : Nat → Heap → Prop} {Mid : Nat → Value → Heap → Prop} (body : Env → Value → Sem Unit) (σs : Nat → Mine.St) (out : Nat → Bool)
    (heq : ∀ it acc env, compTurn (.SetComp elt gens scope pos) dp it acc env = (standAt ip >>= fun _ => pyNext it >>= fun r => match r with
      | none => pure (.done .next)
      | some v => letOwnedTupleGo target it v >>= fun _ => assign target env v >>= fun _ => body env acc >>= fun _ => again (.compLoop (.SetComp elt gens scope pos) dp it acc env)))
    (turn : ∀ i, i < n → ∃ σt, Asg w k sc False (σs i) target (ds i) σt ∧ BodyS w k sc σt body (out i) (σs (i + 1)) (out (i + 1)))
    (ht : ∀ it v, letOwnedTupleGo target it v = pure ()) (lh : Fresh F h₀) (rm : Room k A) {R₀ : Heap} (hR : Le R₀ R) {ro : List Addr} (It : IterAt w A target R₀ I wr ro n ds St Mid) (hro : ∀ a ∈ ro, a ∉ frs A ∧ ∃ o, h₀.get? a = some o) (O : OffW A F h₀ (G :: wr)) (hG : G ∉ wr) (C : CStS w A sc F h₀ R s (σs 0) wr G (out 0) R s) (z : St 0 s.heap) :
    codeAny (MM w) A (.compLoop (.SetComp elt gens scope pos) dp (.ref I) (.ref G) (mkEnv sc F)) (fun r s' => ∃ R', r = .ok .next ∧ CStS w A sc F h₀ R s (σs n) [] G (out n) R' s' ∧ ∀ a ∈ wr, R'.get? a = none) s := by
  refine codeAny_compLoop_bodyS (w := w) (A := A) (fun j s' => ∃ i R', j = n - i ∧ i ≤ n ∧ CStS w A sc F h₀ R s (σs i) wr G (out i) R' s' ∧ St i s'.heap) (heq _ _ _) ?_ (n - 0) ⟨0, R, rfl, Nat.zero_le _, C, z⟩ (ht _)
  rintro _ s₃ ⟨i, R₃, rfl, hin, C₃, s3⟩
  have l₃ : Le R₀ R₃ := hR.trans C₃.st.le
  have wk : ∀ {h₁ h₂ : Heap}, (∀ b o, b ∉ wr → h₁.get? b = some o → h₂.get? b = some o) → ∀ b o, b ∉ G :: wr → h₁.get? b = some o → h₂.get? b = some o := fun q b o nb e => q b o (fun z => nb (List.mem_cons_of_mem _ z)) e
  by_cases hlt : i < n
  · refine It.item hlt l₃ C₃.S.ext C₃.S.fr s3 (fun v R₄ h₄ t₄ a1 a2 a3 a4 a5 a6 a7 => ?_) (fun a ha => C₃.Y.r a (List.mem_cons_of_mem _ ha))
    have hG₃ : s₃.heap.get? G = some (setO w _) := C₃.a
    have r4 : ∀ a ∈ G :: wr, R₄.get? a = none := fun a ha => by
      rcases List.mem_cons.mp ha with e | ha
      · subst e; exact none_of fun o e => (a2 _ o e).elim (fun e => nomatch (C₃.Y.r a List.mem_cons_self).symm.trans e) fun e => nomatch e.symm.trans hG₃
      · exact a5 a ha
    obtain ⟨S₄, Y₄⟩ := C₃.S.growBut (t := t₄) (d := s₃.drawn) O C₃.Y (.of (wk a4)) a1 a3 a2
    have C₄ : CStS w A sc F h₀ R s (σs i) wr G (out i) R₄ { s₃ with heap := h₄, toks := t₄ } := ⟨C₃.st.trans ⟨a1, fun b o e => (a2 b o e).imp id fun z => none_of fun o z' => (by obtain ⟨_, o', e', _⟩ := C₃.S.old b o z'; exact nomatch z.symm.trans e'), _, _, _, rfl⟩, S₄,
      Y₄ (fun a ha => by
        rcases List.mem_cons.mp ha with e | ha
        · subst e; exact ⟨_, a4 _ _ hG hG₃⟩
        · exact It.mlive a7 a ha) r4, C₃.a.move (fun o e => a4 _ o hG e) a1⟩
    have s4 : St (i + 1) h₄ := It.rest ht a7
    obtain ⟨σt, ha, hb⟩ := turn i hlt
    have keep : ∀ {R₅ R₆ : Heap} {s₅ s₆ : Shared}, Le R₀ R₅ → Le R₅ s₅.heap → Le R₅ R₆ → Le R₆ s₆.heap → (∀ b ∈ wr, ∀ o, s₅.heap.get? b = some o → s₆.heap.get? b = some o) → Pres (frs A) h₀ s₅.heap → Pres (frs A) h₀ s₆.heap → St (i + 1) s₅.heap → St (i + 1) s₆.heap := fun l1 l2 l3 l4 pw p5 p6 st => It.frame st pw (fun b hb => by
      obtain ⟨q1, o, q2⟩ := hro b hb
      rw [(p5 b o q2).1 q1, (p6 b o q2).1 q1]) (l1.trans l2) ((l1.trans l3).trans l4)
    refine wpAny_mono (run_locked C₄.S O C₄.Y fun SL => ha.jd a6 A F _ R₄ _ (.refl _) ⟨lock_none lh.L (decide_eq_false fun q => O.l _ q rfl), fun hf y c e => lock_none (lh.c hf y c e) (decide_eq_false fun q => O.c _ q y c e rfl)⟩ rm SL) ?_ fun _ _ e => e.elim
    rintro _ s₅ ⟨R₅, st₅, S₅, Y₅, pw₅, -⟩
    have C₅ : CStS w A sc F h₀ R s σt wr G (out i) R₅ s₅ := ⟨C₄.st.trans st₅, S₅, Y₅, C₄.a.move (pw₅ G List.mem_cons_self) st₅.le⟩
    have s5 : St (i + 1) s₅.heap := keep (l₃.trans a1) S₄.ext st₅.le S₅.ext (fun b hb => pw₅ b (List.mem_cons_of_mem _ hb)) S₄.old S₅.old s4
    refine hb _ _ _ _ _ _ _ _ _ _ _ lh rm O hG C₅ fun R₆ s₆ C₆ l₆ pw₆ => ?_
    exact ⟨n - (i + 1), by omega, i + 1, R₆, rfl, hlt, C₆, keep ((l₃.trans a1).trans st₅.le) S₅.ext l₆ C₆.S.ext pw₆ S₅.old C₆.S.old s5⟩
  · have : i = n := Nat.le_antisymm hin (Nat.not_lt.mp hlt)
    subst this
    refine It.done (l₃.trans C₃.S.ext) s3 fun h₄ t₄ a4 => ?_
    have hG₃ : s₃.heap.get? G = some (setO w _) := C₃.a
    obtain ⟨S₄, yo⟩ := C₃.S.growBut0 (t := t₄) (d := s₃.drawn) O C₃.Y.own (.of (wk a4)) (.refl _) (fun b o e => a4 b o (fun q => nomatch (C₃.Y.r b (List.mem_cons_of_mem _ q)).symm.trans e) (C₃.S.ext b o e)) fun b o e => .inl e
    exact ⟨R₃, rfl, ⟨C₃.st.trans .heap, S₄, ⟨fun a ha => C₃.Y.r a (by rw [List.mem_singleton] at ha; subst ha; exact List.mem_cons_self), fun a ha => by rw [List.mem_singleton] at ha; subst ha; exact ⟨_, a4 _ _ hG hG₃⟩, fun a ha => yo a (by rw [List.mem_singleton] at ha; subst ha; exact List.mem_cons_self)⟩, C₃.a.move (fun o e => a4 _ o hG e) (.refl _)⟩, fun a ha => C₃.Y.r a (List.mem_cons_of_mem _ ha)⟩

/-- the run of a comprehension's loop -/
noncomputable def CompRunS (w : World) (k : Nat) (sc : Scope) (σ : St) (e : PySem.Expr) (target : PySem.Expr) (n : Nat) (ds : Nat → D) (out : Bool) : Prop :=
  ∀ {A : Around} {F : FrS} {h₀ R : Heap} {s : Shared} {I G : Addr} {wr ro : List Addr} {St : Nat → Heap → Prop} {Mid : Nat → Value → Heap → Prop}, Fresh F h₀ → Room k A → IterAt w A target R I wr ro n ds St Mid → (∀ a ∈ ro, a ∉ frs A ∧ a ∉ G :: wr ∧ ∃ o, h₀.get? a = some o) →
    OffW A F h₀ (G :: wr) → G ∉ wr → CStS w A sc F h₀ R s σ wr G false R s → St 0 s.heap →
    codeAny (MM w) A (.compLoop e 0 (.ref I) (.ref G) (mkEnv sc F)) (fun r s' => ∃ σ' R', r = .ok .next ∧ Step h₀ R R' s s' ∧ Sat w A sc F h₀ σ' R' s' ∧ AccS w G out R' s'.heap ∧ ∀ a ∈ G :: wr, R'.get? a = none) s

/-- what a comprehension leaves, before its names go -/
structure CEndS (w : World) (A : Around) (sc : Scope) (F : FrS) (h₀ R : Heap) (s : Shared) (σ : St) (out : Bool) (G C : Addr) (R' : Heap) (s' : Shared) : Prop where
  st : Step h₀ R R' s s'
  S : Sat w A sc F h₀ σ R' s'
  a : AccS w G out R' s'.heap
  O : OffW A F h₀ [C, G]
  own : ∀ a ∈ [C, G], ∀ m x d, s'.heap.Ns F.L m → σ.lookup x = some (.own d) → ¬ At sc F s'.heap m x (.ref a)
  r : ∀ a ∈ [C, G], R'.get? a = none
  ne : C ≠ G
  ns : ∃ m, s'.heap.Ns C m

theorem comp_coreS {e target iter : PySem.Expr} {ifs : List PySem.Expr} {gs : List Comprehension} {scope : Scope} {pos : Pos} {n : Nat} {ds : Nat → D} {out : Bool} {σi : St} {use : Option (Value → Sem Unit)} {Q : Value → Shared → Prop}
    (hcl : clausesOf e = ⟨target, iter, ifs, 0⟩ :: gs) (hi : ItersR w k sc σ target iter n ds σ₁) (hin : Inner scope sc σ₁ σi) (hrun : CompRunS w k (relabelS scope sc) σi e target n ds out)
    (hstart : ∀ {A : Around} {it acc : Value} {env : Env} {R : Result → Shared → Prop} {s : Shared}, codeAny (MM w) A (.compLoop e 0 it acc env) R s → wpAny (MM w) A (pyIter it) (fun it' s' => codeAny (MM w) A (.compLoop e 0 it' acc env) R s') (notedBy (MM w) A env fun x s' => R (.error x) s') s → codeAny (MM w) A (.compStart e 0 it acc env) R s)
    (hkind : scope.kind = .function) (hc : ∀ y ∈ scope.names, y.2 ≠ .cell) (hf : ∀ x, (x, NameKind.free) ∈ scope.names → sc.names.lookup x = some .cell) (hnames : ∀ x ∈ scope.names, x.2 = .local → scope.names.lookup x.1 = some .local)
    (hs : ∀ env x, foldedSetIterable iter env x = pure x) (rm : Room k A) (S : Sat w A sc F h₀ σ R s)
    (fin : ∀ G C R' s', CEndS w A sc F h₀ R s σ₁ out G C R' s' → compPost (MM w) A (fun _ _ => False) use Q (.ref G) C (.ok .next) s') :
    wpAny (MM w) A (comprehension e scope (mkEnv sc F) pos (newSet (.type "set")) false (eval iter (mkEnv sc F)) use) Q (fun _ _ => False) s := by
  have hcells : ∀ x, (x, NameKind.free) ∈ scope.names → ∃ c, F.cl.lookup x = some c := fun x hx => S.has x (hf x hx)
  refine wpAny_comprehension_free (cl := clo F.cl scope.names []) hcl (hs _) (closureFor_eq (env := mkEnv sc F) hcells) hkind hnames ?_
  refine wpAny_mono (hi A F h₀ R s rm S) (fun x s₁ h₁ => wpAny_mono h₁ (fun it s₂ h₂ => ?_) fun _ _ e => e.elim) fun _ _ e => e.elim
  obtain ⟨R₂, I, wr, ro, St, Mid, rfl, st₂, S₂, It, z, O, Y, hro⟩ := h₂
  have nG := get_size s₂.heap
  refine newSet_any ?_
  have l3 := Le.push s₂.heap (setO w false)
  generalize eh3 : s₂.heap.push (setO w false) = h₃ at l3
  have gG : h₃.get? s₂.heap.objs.size = some (setO w false) := by rw [← eh3]; exact Heap.get?_push_size _ rfl
  have nC := get_size h₃
  generalize eG : s₂.heap.objs.size = G at nG gG
  generalize eC : h₃.objs.size = C at nC
  have neCG : C ≠ G := fun q => by rw [q] at nC; exact (nomatch nC.symm.trans gG)
  refine wpAny_newFunctionEnv (s := { s₂ with heap := h₃ }) hc (fun _ h => absurd h List.not_mem_nil) (fun h₄ ns4 sb4 => ?_) hkind
  dsimp only at ns4 sb4
  rw [eC] at ns4 sb4
  simp only [Option.isSome_some, if_true] at sb4
  have l4 : Le h₃ h₄ := fun b o e => (sb4.2 b (fun q => by rw [q] at e; exact (nomatch nC.symm.trans e))).trans (Heap.get?_push_of_some _ e)
  let F' : FrS := ⟨C, clo F.cl scope.names [], F.q, none, F.cd, F.fr⟩
  let h₀i := only h₃ fun b => decide (b ∉ G :: wr)
  have i_some : ∀ {b o}, h₃.get? b = some o → b ∉ G :: wr → h₀i.get? b = some o := fun e n => only_some.mpr ⟨decide_eq_true n, e⟩
  have i_none : ∀ {b}, b ∈ G :: wr → h₀i.get? b = none := fun m => none_of fun o e => absurd m (of_decide_eq_true (only_some.mp e).1)
  have i_le : Le h₀i h₃ := only_le _ _
  have hG : G ∉ wr := fun q => by obtain ⟨o, ho⟩ := Y.live G q; exact nomatch nG.symm.trans ho
  have clsub : ∀ x c, F'.cl.lookup x = some c → F.cl.lookup x = some c := fun x c e => clo_sub _ _ hcells (fun _ _ h => by cases h) e
  have offG := S₂.off_new nG
  have offC := S₂.off_new (a := C) (none_of fun o e => nomatch nC.symm.trans (l3 _ _ e))
  have h₀p : Pres (frs A) h₀ h₀i := fun b o e => by
    obtain ⟨q1, o', q2, q3⟩ := S₂.old b o e
    have nb : b ∉ G :: wr := fun m => by
      rcases List.mem_cons.mp m with q | m
      · subst q; exact nomatch nG.symm.trans q2
      · exact nomatch (O.h b m).symm.trans e
    exact ⟨fun n => i_some (l3 _ _ (q1 n)) nb, o', i_some (l3 _ _ q2) nb, q3⟩
  have S₄ : Sat w A (relabelS scope sc) F' h₀i σi R₂ { s₂ with heap := h₄, toks := s₂.toks } := by
    have Sk := S₂.keep (h' := h₄) (t := s₂.toks) (d := s₂.drawn) (l3.trans l4)
    refine { fr := Sk.fr, base := S₂.base.mono h₀p, old := .of_le (i_le.trans l4), ext := Sk.ext, roff := S₂.roff, lr := offC.r, cells := ?_, has := ?_, vars := ⟨_, ns4, ?_, ?_, ?_⟩ }
    · exact { is := fun x c e => Sk.cells.is x c (clsub x c e), r := fun x c e => S₂.cells.r x c (clsub x c e), l := fun x c e => offC.c x c (clsub x c e), p := fun x c e => S₂.cells.p x c (clsub x c e), inj := fun x y c e e' => S₂.cells.inj x y c (clsub x c e) (clsub y c e') }
    · exact fun x hx => clo_has _ _ (.inl (relabel_lookup hx hc))
    · intro x sl e
      obtain ⟨⟨d, rfl⟩, q1, q2, q3⟩ := hin x sl e
      obtain ⟨m, V⟩ := Sk.vars
      obtain ⟨v, at_, ok⟩ := V.at_ x _ q1
      cases ok with
      | fz r =>
        refine ⟨v, ?_, .fz r⟩
        obtain ⟨c, hcx⟩ := clo_has (cells := F.cl) (x := x) scope.names [] (.inl (relabel_lookup q2 hc))
        refine .cel q2 hcx ?_
        rcases at_ with ⟨k, e⟩ | ⟨k, e, i⟩ | ⟨k, e, i⟩
        · exact nomatch q3.symm.trans k
        · have := clsub x c hcx; rw [e] at this; cases this; exact i
        · exact nomatch q3.symm.trans k
    · intro x d a e
      obtain ⟨⟨d', q⟩, _⟩ := hin x _ e; cases q
    · intro x y d e' a e
      obtain ⟨⟨d', q⟩, _⟩ := hin x _ e; cases q
  have O' : OffW A F' h₀i (G :: wr) := ⟨fun a ha => i_none ha, fun a ha => by
      rcases List.mem_cons.mp ha with q | ha
      · exact q ▸ neCG.symm
      · intro q; obtain ⟨o, ho⟩ := Y.live a ha; have q : a = C := q; rw [q] at ho; exact (nomatch nC.symm.trans (l3 _ _ ho)), fun a ha y c e => by
      rcases List.mem_cons.mp ha with q | ha
      · exact q ▸ offG.c y c (clsub y c e)
      · exact O.c a ha y c (clsub y c e), fun a ha => by
      rcases List.mem_cons.mp ha with q | ha
      · exact q ▸ offG.p
      · exact O.p a ha⟩
  have Y' : DynW (relabelS scope sc) F' σi R₂ h₄ (G :: wr) := ⟨fun a ha => by
      rcases List.mem_cons.mp ha with q | ha
      · exact q ▸ offG.r
      · exact Y.r a ha, fun a ha => by
      rcases List.mem_cons.mp ha with q | ha
      · exact ⟨_, l4 _ _ (q ▸ gG)⟩
      · obtain ⟨o, ho⟩ := Y.live a ha; exact ⟨o, l4 _ _ (l3 _ _ ho)⟩, fun a _ m x d _ e => by obtain ⟨⟨d', q⟩, _⟩ := hin x _ e; cases q⟩
  have z4 : St 0 h₄ := It.frame z (fun b hb o e => l4 _ _ (l3 _ _ e)) (fun b hb => by
    obtain ⟨_, _, o, ho⟩ := hro b hb; rw [ho]; exact l4 _ _ (l3 _ _ ho)) S₂.ext (S₂.ext.trans (l3.trans l4))
  have hro' : ∀ a ∈ ro, a ∉ frs A ∧ a ∉ G :: wr ∧ ∃ o, h₀i.get? a = some o := fun a ha => by
    obtain ⟨q1, q2, o, q3⟩ := hro a ha
    have q4 : a ∉ G :: wr := fun m => by
      rcases List.mem_cons.mp m with q | m
      · subst q; exact nomatch nG.symm.trans q3
      · exact q2 m
    exact ⟨q1, q4, o, i_some (l3 _ _ q3) q4⟩
  have main := hrun (F := F') (s := { s₂ with heap := h₄, toks := s₂.toks }) ⟨none_of fun o e => (nomatch nC.symm.trans (i_le _ _ e)), fun h => (nomatch h)⟩ rm It hro' O' hG ⟨.refl .., S₄, Y', (l4 _ _ gG)⟩ z4
  have main := codeAny_mono (R' := compPost (MM w) A (fun _ _ => False) use Q (.ref G) C) main fun r s' ⟨σe, R', e, st, S', a', rn⟩ => by
    subst e
    have p4 : PresBut (frs A) ([C, G] ++ wr) s₂.heap s'.heap := fun b o nb e => by
      simp only [List.cons_append, List.nil_append, List.mem_cons, not_or] at nb
      exact S'.old b o (i_some (l3 _ _ e) (by rw [List.mem_cons, not_or]; exact nb.2))
    have O2 : OffW A F h₀ ([C, G] ++ wr) := by
      have : ∀ {P : Addr → Prop}, P C → P G → (∀ a ∈ wr, P a) → ∀ a ∈ [C, G] ++ wr, P a := fun h1 h2 h3 a ha => by
        simp only [List.cons_append, List.nil_append, List.mem_cons] at ha
        rcases ha with q | q | q
        · exact q ▸ h1
        · exact q ▸ h2
        · exact h3 a q
      exact ⟨this offC.h offG.h O.h, this offC.l offG.l O.l, this offC.c offG.c O.c, this offC.p offG.p O.p⟩
    have nC2 : s₂.heap.get? C = none := none_of fun o e => nomatch nC.symm.trans (l3 _ _ e)
    obtain ⟨h5, t5, d5, e5⟩ := st.same
    obtain ⟨S₅, own5⟩ := S₂.growBut0 (h' := h5) (t := t5) (d := d5) O2 (fun a ha m x d hn q i => by
      simp only [List.cons_append, List.nil_append, List.mem_cons] at ha
      rcases ha with z | z | z
      · exact S₂.notOwn nC2 hn q (z ▸ i)
      · exact S₂.notOwn nG hn q (z ▸ i)
      · exact Y.own a z m x d hn q i) (by rw [e5] at p4; exact p4) st.le (by have := S'.ext; rw [e5] at this; exact this) (fun b o e => (st.new b o e).imp id fun q => none_of fun o' q' => by
        have : b ∈ G :: wr := Decidable.byContradiction fun nb => nomatch q.symm.trans (i_some (l3 _ _ q') nb)
        exact nomatch (rn b this).symm.trans e)
    have e6 : s' = { s₂ with heap := h5, toks := t5, drawn := d5 } := e5
    refine fin G C R' s' ⟨st₂.trans ⟨st.le, fun b o e => (st.new b o e).imp id fun q => none_of fun o' q' => ?_, h5, t5, d5, e6⟩, e6 ▸ S₅, a', ⟨fun a ha => O2.h a (List.mem_append_left _ ha), fun a ha => O2.l a (List.mem_append_left _ ha), fun a ha => O2.c a (List.mem_append_left _ ha), fun a ha => O2.p a (List.mem_append_left _ ha)⟩,
      fun a ha => by rw [e6]; exact own5 a (List.mem_append_left _ ha), fun a ha => ?_, neCG, let ⟨m, V⟩ := S'.vars; ⟨m, V.ns⟩⟩
    · obtain ⟨_, o'', e'', _⟩ := h₀p b o' q'; exact nomatch q.symm.trans e''
    · rcases List.mem_cons.mp ha with q | ha
      · exact q ▸ S'.lr
      · rw [List.mem_singleton] at ha; exact rn a (ha ▸ List.mem_cons_self)
  subst eC
  exact hstart main (It.self z4 main)

theorem CEndS.drop {out : Bool} {G C : Addr} (E : CEndS w A sc F h₀ R s σ out G C R' s') (hsb : Heap.SameBut C s'.heap h') :
    ∃ R', Step h₀ R R' s { s' with heap := h' } ∧ Sat w A sc F h₀ σ R' { s' with heap := h' } ∧ h'.get? G = some (setO w out) := by
  have k : ∀ b o, b ∉ [C, G] → s'.heap.get? b = some o → h'.get? b = some o := fun b o nb e => (hsb.2 b fun q => nb (q ▸ List.mem_cons_self)).trans e
  obtain ⟨S₁, own₁⟩ := E.S.growBut0 (t := s'.toks) (d := s'.drawn) E.O E.own (.of k) (.refl _) (fun b o e => k b o (fun q => nomatch (E.r b q).symm.trans e) (E.S.ext b o e)) fun b o e => .inl e
  exact ⟨R', E.st.trans .heap, S₁, (hsb.2 G E.ne.symm).trans E.a⟩

theorem codeAny_compStart_set {elt target iter : PySem.Expr} {ifs : List PySem.Expr} {rest : List Comprehension} {scope : Scope} {pos : Pos} {it acc : Value} {env : Env} {R : Result → Shared → Prop}
    (h0 : codeAny (MM w) A (.compLoop (.SetComp elt (⟨target, iter, ifs, 0⟩ :: rest) scope pos) 0 it acc env) R s)
    (h : wpAny (MM w) A (pyIter it) (fun it' s' => codeAny (MM w) A (.compLoop (.SetComp elt (⟨target, iter, ifs, 0⟩ :: rest) scope pos) 0 it' acc env) R s')
      (notedBy (MM w) A env fun x s' => R (.error x) s') s) :
    codeAny (MM w) A (.compStart (.SetComp elt (⟨target, iter, ifs, 0⟩ :: rest) scope pos) 0 it acc env) R s := by
  refine codeAny_of_tree ?_
  show wpAny _ _ ((compStart (.SetComp elt (⟨target, iter, ifs, 0⟩ :: rest) scope pos) 0 it acc env).onRaise (fun x => do noteFrame x env; standAt theWindowsPlace)) _ _ s
  refine wpAny_notedAt ?_
  unfold compStart
  show wpAny _ _ (ask >>= _) _ _ s
  refine wpAny_bind (wpAny_askSetting (wpAny_ite ?_))
  split
  · first
      | exact wpAny_bind (wpAny_pure (wpAny_pure (And.intro rfl h0)))
      | exact wpAny_pure (And.intro rfl h0)
  · first
      | exact wpAny_bind (wpAny_rule (wpAny_bind (wpAny_standAt (wpAny_bind (wpAny_mono h (fun it' s' h' => wpAny_pure (And.intro rfl h')) fun _ _ x => x)))))
      | (refine wpAny_bind (wpAny_rule ?_); show wpAny _ _ (standAt iter.pos >>= _) _ _ s; exact wpAny_bind (wpAny_standAt (wpAny_bind (wpAny_mono h (fun it' s' h' => wpAny_pure (And.intro rfl h')) fun _ _ x => x))))

/-- all the items say True -/
theorem comp_allTrue {elt iter : PySem.Expr} {t : Str} {tp : Pos} {scope : Scope} {pos : Pos} {n : Nat} {ds : Nat → D} (hn : 0 < n) (ht0 : σ.lookup t = none) (hx : sc.names.lookup t = some .local)
    (turn : ∀ i, i < n → ∃ σv, Ev w k sc (put σ t (.fz (ds i))) elt (.bool true) σv ∧ ∀ x sl, σ.lookup x = some sl → σv.lookup x = some sl)
    (hk : sc.kind = .function := by rfl) : CompRunS w k sc σ (.SetComp elt [⟨.Name t tp, iter, [], 0⟩] scope pos) (.Name t tp) n ds true := by
  intro A F h₀ R s I G wr ro St Mid lh rm It hro O hG C z
  refine codeAny_mono (comp_loopS (w := w) (A := A) (k := k) (fun env acc => eval elt env >>= fun x => standAt elt.pos >>= fun _ => call (.builtin "set.add") [acc, x] >>= fun _ => pure ()) (ip := iter.pos) (fun _ => σ) (fun i => decide (0 < i)) (fun it acc env => rfl) (fun i hlt => ?_) (fun _ _ => rfl) lh rm (.refl R) It (fun a ha => ⟨(hro a ha).1, (hro a ha).2.2⟩) O hG C z) ?_
  · obtain ⟨σv, ev, q⟩ := turn i hlt
    refine ⟨_, asg_local hx hk, ?_⟩
    have e : decide (0 < i + 1) = true := by simp
    rw [e]
    exact fun A F h₀ R R' s s' G wr Q E lh rm O hG C hq => body_emitS ev _ _ _ _ _ _ _ _ _ _ _ lh rm O hG C fun R'' s'' C' l pw => hq R'' s'' ⟨C'.st, C'.S.weaken q, C'.Y.weaken q, C'.a⟩ l pw
  · rintro r s' ⟨R', e, C', hw⟩
    have e2 : decide (0 < n) = true := by simpa using hn
    rw [e2] at C'
    refine ⟨σ, R', e, C'.st, C'.S, C'.a, fun a ha => ?_⟩
    rcases List.mem_cons.mp ha with q | ha
    · subst q; exact C'.Y.r a List.mem_cons_self
    · exact hw a ha

/-- name, = {.. for ..}, all of them True -/
theorem ex_assign_set {x : Str} {p p2 apos : Pos} {kk : Nat} {elt target iter : PySem.Expr} {ifs : List PySem.Expr} {gs : List Comprehension} {scope : Scope} {pos : Pos} {n : Nat} {ds : Nat → D} (σi : St)
    (hi : ItersR w k sc σ target iter n ds σ₁) (hin : Inner scope sc σ₁ σi) (hrun : CompRunS w k (relabelS scope sc) σi (.SetComp elt (⟨target, iter, ifs, 0⟩ :: gs) scope pos) target n ds true) (hx : sc.names.lookup x = some .local)
    (hf : (scope.names.all fun p => !(p.2 == .free) || sc.names.lookup p.1 == some .cell) = true := by rfl) (hnames : (scope.names.all fun p => !(p.2 == .local) || scope.names.lookup p.1 == some .local) = true := by rfl)
    (hkind : scope.kind = .function := by rfl) (hc : ∀ y ∈ scope.names, y.2 ≠ .cell := by decide) (hk : sc.kind = .function := by rfl)
    (hs : ∀ env x, foldedSetIterable iter env x = pure x := by intro _ _; rfl)
    (hs1 : ∀ F, swapsWithSole [.Tuple [.Name x p] kk p2] (.SetComp elt (⟨target, iter, ifs, 0⟩ :: gs) scope pos) apos.line (mkEnv sc F) = pure false := by intro _; rfl)
    (hw : ∀ F, swappedStores [.Tuple [.Name x p] kk p2] (.SetComp elt (⟨target, iter, ifs, 0⟩ :: gs) scope pos) (mkEnv sc F) = pure none := by intro _; rfl) :
    Ex w k sc σ (.Assign [.Tuple [.Name x p] kk p2] (.SetComp elt (⟨target, iter, ifs, 0⟩ :: gs) scope pos) apos) .next (put σ₁ x (.fz (.bool true))) := fun A F h₀ R s hfn lh rm S => by
  refine Assign_Tuple ?_ (hs1 _) (hw _)
  show wpAny (MM w) A (comprehension (.SetComp elt (⟨target, iter, ifs, 0⟩ :: gs) scope pos) scope (mkEnv sc F) (firstIterPos (⟨target, iter, ifs, 0⟩ :: gs) pos) (newSet (.type "set")) false (eval iter (mkEnv sc F)) none) _ _ s
  refine wpAny_mono (comp_coreS (use := none) (Q := fun v s' => ∃ G R', v = .ref G ∧ Step h₀ R R' s s' ∧ Sat w A sc F h₀ σ₁ R' s' ∧ s'.heap.get? G = some (setO w true)) rfl hi hin hrun (fun h0 h => codeAny_compStart_set h0 h) hkind hc (hf_of hf) (hn_of hnames) hs rm S fun G C R' s' E => ?_) ?_ fun _ _ e => e.elim
  · obtain ⟨m, hm⟩ := E.ns
    exact ⟨m, hm, fun h' hsb => let ⟨R'', a, b, c⟩ := E.drop hsb; ⟨G, R'', rfl, a, b, c⟩⟩
  · rintro v s' ⟨G, R', rfl, st, S', hG⟩
    show wpAny (MM w) A (do standAt p2; unpack (.ref G) [(false, assign (.Name x p) (mkEnv sc F))]) _ _ s'
    refine wpAny_bind (wpAny_standAt (unpack_set rm.h hG fun h' l => ?_))
    have S₁ := S'.keep (t := s'.toks) (d := s'.drawn) l
    exact wpAny_mono (asg_local (fn := True) (k := k) hx hk A F h₀ R' _ (.bool true) (fun _ => hfn) lh rm S₁ (.bool true)) (fun _ _ ⟨R₂, st₂, S₂⟩ => ⟨R₂, (st.trans (.heap (t := s'.toks))).trans st₂, S₂, .next⟩) fun _ _ e => e.elim
end
end Mine
end

noncomputable section
open PySem PySem.W PyProof.Rows PySem.SeqAt
namespace Mine
section
variable {w : World} {A : Around} {E : Value → Shared → Prop} {s : Shared} {I S : Addr} {n : Nat} {res : Value}
noncomputable abbrev ListIs (h : Heap) (S : Addr) (acc : List Value) : Prop := ∃ c, h.get? S = some (seqObj "list" acc.toArray c)

theorem loadIfAlive_any {a : Addr} {Q : Option Obj → Shared → Prop} (h : Q (s.heap.get? a) s) : wpAny (MM w) A (loadIfAlive a) Q E s := fun Γ p hΓ => by
  unfold loadIfAlive
  rw [Sem.wp_loadIfAlive]; exact h

/-- an iterator, drawn into a list -/
structure Drains (w : World) (A : Around) (I S : Addr) (n : Nat) (St : Nat → List Value → Shared → Prop) (Fin : List Value → Shared → Prop) : Prop where
  list : ∀ {i acc s}, St i acc s → ListIs s.heap S acc
  item : ∀ {i acc s} {Q : Option Value → Shared → Prop} {E : Value → Shared → Prop}, i < n → St i acc s → acc.length = i →
    (∀ v s', ListIs s'.heap S acc → (∀ h', Heap.SameBut S s'.heap h' → ListIs h' S (acc ++ [v]) → St (i + 1) (acc ++ [v]) { s' with heap := h' }) → Q (some v) s') → wpAny (MM w) A (pyNext (.ref I)) Q E s
  done : ∀ {acc s} {Q : Option Value → Shared → Prop} {E : Value → Shared → Prop}, St n acc s → acc.length = n → (∀ s', Fin acc s' → Q none s') → wpAny (MM w) A (pyNext (.ref I)) Q E s

theorem drain_loop {St : Nat → List Value → Shared → Prop} {Fin : List Value → Shared → Prop} (D : Drains w A.in1 I S n St Fin) (hn : n ≤ sizeLine) {R : Result → Shared → Prop} (hR : ∀ acc s', acc.length = n → Fin acc s' → R (.ok (.ret res)) s') :
    ∀ (k i : Nat) (acc : List Value) (s : Shared), n - i = k → i ≤ n → acc.length = i → St i acc s → codeAny (MM w) A (.builtin "list.extend.loop" ⟨[.ref S, .ref I, res], []⟩) R s := by
  intro k
  induction k with
  | zero =>
    intro i acc s hk hi hl hst
    have hin : i = n := by omega
    subst hin
    refine codeAny_builtin F.entry_extend_loop ?_
    rw [Around.under_plainId F.plain_extend_loop _]
    show wpAny _ A.in1 (pyNext (.ref I) >>= _) _ _ s
    exact wpAny_bind (D.done hst hl fun s' hf => wpAny_pure (hR acc s' hl hf))
  | succ k ih =>
    intro i acc s hk hi hl hst
    have hlt : i < n := by omega
    refine codeAny_builtin F.entry_extend_loop ?_
    rw [Around.under_plainId F.plain_extend_loop _]
    show wpAny _ A.in1 (pyNext (.ref I) >>= _) _ _ s
    refine wpAny_bind (D.item hlt hst hl fun v s' ⟨c, hS⟩ hnext => ?_)
    show wpAny _ A.in1 (updateSeq S (·.push v) >>= _) _ _ _
    refine wpAny_bind (wpAny_updateSeq hS rfl (wpAny_pure ⟨plainId_quiet F.plain_extend_loop _, ih (i + 1) (acc ++ [v]) _ (by omega) hlt (by simp [hl]) (hnext _ (Heap.SameBut.update ..) ?_)⟩) (by show acc.toArray.size ≤ sizeLine; simp; omega) (by show (acc.toArray.push v).size ≤ sizeLine + 1; simp; omega))
    have g := get?_update_seq (g := fun xs => xs.push v) hS
    rw [List.push_toArray] at g
    exact ⟨_, g⟩

theorem extend_drain {T : String} {St : Nat → List Value → Shared → Prop} {Fin : List Value → Shared → Prop} (D : Drains w A.in1 I S n St Fin) (hn : n ≤ sizeLine) (hT : s.TypeIs (.ref I) T) (hSI : S ≠ I)
    (t1 : (Value.type T == Value.type "list") = false) (t2 : (Value.type T == Value.type "tuple") = false)
    (n1 : typeLookup (.type T) "__len__" = pure none) (n2 : typeLookup (.type T) "__length_hint__" = pure none)
    (self : ∀ {Q : Value → Shared → Prop} {E : Value → Shared → Prop}, Q (.ref I) s → wpAny (MM w) A.in1 (pyIter (.ref I)) Q E s) (hS : ListIs s.heap S [])
    (h0 : ∀ h', Heap.SameBut S s.heap h' → ListIs h' S [] → St 0 [] { s with heap := h' }) {R : Result → Shared → Prop} (hR : ∀ acc s', acc.length = n → Fin acc s' → R (.ok (.ret res)) s') :
    wpAny (MM w) A.in1 (Builtin.List.listExtendWith (.ref S) (.ref I) res)
      (fun fin s' => match fin with | .done f => R (.ok f) s' | .again c' => c'.quiet = true ∧ codeAny (MM w) A c' R s') (fun e s' => R (.error e) s') s := by
  obtain ⟨c, hS⟩ := hS
  unfold Builtin.List.listExtendWith
  refine wpAny_bind (wpAny_typeOf hT ?_)
  have h1 : Builtin.List.listSameRef (.ref S) (.ref I) = false := by simp [Builtin.List.listSameRef, hSI]
  simp only [h1, t1, t2, Bool.or_false, Bool.false_eq_true, if_false]
  refine wpAny_bind (self ?_)
  refine wpAny_bind (wpAny_holding ?_)
  unfold Builtin.List.listLengthHint
  refine wpAny_bind (wpAny_specialOf hT n1 ?_)
  show wpAny _ A.in1 (specialOf (Value.ref I) (Str.ofString "__length_hint__") >>= _) _ _ _
  refine wpAny_bind (wpAny_specialOf hT n2 ?_)
  refine wpAny_pure ?_
  show wpAny _ A.in1 (rule "list.extend.makes-room" >>= fun _ => Builtin.List.listTouch (.ref S) >>= fun _ =>
    again (.builtin "list.extend.loop" ⟨[.ref S, .ref I, res], []⟩)) _ _ _
  refine wpAny_bind (wpAny_rule ?_)
  refine wpAny_bind ?_
  show wpAny _ A.in1 (updateSeq S (·.push .none) >>= fun _ => updateSeq S (·.pop)) _ _ _
  refine wpAny_bind (wpAny_updateSeq hS rfl ?_ (by simp) (by simp))
  have hS₂ := Heap.get?_update_self (Obj.mapSeq (·.push Value.none)) hS rfl
  refine wpAny_updateSeq hS₂ rfl ?_ (by rw [sizeLine_eq]; decide) (by rw [sizeLine_eq]; decide)
  have hS₃ := Heap.get?_update_self (Obj.mapSeq (·.pop)) hS₂ rfl
  exact wpAny_pure ⟨plainId_quiet F.plain_extend_loop _, drain_loop D hn hR n 0 [] _ rfl (Nat.zero_le _) rfl (h0 _ ((Heap.SameBut.update ..).trans (Heap.SameBut.update ..)) ⟨_, hS₃⟩)⟩

/-- collect -/
theorem collect_code {T : String} {St : Nat → List Value → Shared → Prop} {Fin : List Value → Shared → Prop} (D : Drains w A.in1 I s.heap.objs.size n St Fin) (hn : n ≤ sizeLine) (hT : ∀ {h}, Le s.heap h → ({ s with heap := h } : Shared).TypeIs (.ref I) T)
    (t1 : (Value.type T == Value.type "list") = false) (t2 : (Value.type T == Value.type "tuple") = false)
    (n1 : typeLookup (.type T) "__len__" = pure none) (n2 : typeLookup (.type T) "__length_hint__" = pure none)
    (self : ∀ {h} {Q : Value → Shared → Prop} {E : Value → Shared → Prop}, Le s.heap h → Q (.ref I) { s with heap := h } → wpAny (MM w) A.in1 (pyIter (.ref I)) Q E { s with heap := h })
    (h0 : ∀ h', Le s.heap h' → ListIs h' s.heap.objs.size [] → St 0 [] { s with heap := h' })
    {R : Result → Shared → Prop} (hR : ∀ acc s', acc.length = n → Fin acc s' → R (.ok (.ret (.ref s.heap.objs.size))) s') : codeAny (MM w) A (.builtin "proto.collect" ⟨[.ref I], []⟩) R s := by
  have n0 := get_size s.heap
  have l := Le.push s.heap { cls := .type "list", data := .seq ([] : List Value).toArray }
  have hSI : s.heap.objs.size ≠ I := fun e => by obtain ⟨o, ho, _⟩ := hT (Le.refl s.heap); exact nomatch (e ▸ n0).symm.trans ho
  refine codeAny_builtin F.entry_proto_collect ?_
  rw [Around.under_plainId F.plain_proto_collect _]
  show wpAny _ A.in1 (newList [] >>= fun l => again (.builtin "list.__iadd__" ⟨[l, .ref I], []⟩)) _ _ s
  refine wpAny_bind (wpAny_newObj_type ?_)
  refine wpAny_pure ⟨plainId_quiet F.plain_list_iadd _, codeAny_builtin F.entry_list_iadd ?_⟩
  rw [Around.under_plainId F.plain_list_iadd _]
  show wpAny _ A.in1 (Builtin.List.listExtendWith (.ref s.heap.objs.size) (.ref I) (.ref s.heap.objs.size)) _ _ _
  exact extend_drain (R := R) (s := { s with heap := _ }) D hn (hT l) hSI t1 t2 n1 n2 (fun h => self l h) ⟨0, Heap.get?_push_size _ rfl⟩ (fun h' sb hS => h0 h' (fun b o e => (sb.2 b fun q => nomatch (q ▸ n0).symm.trans e).trans (l b o e)) hS) hR
theorem collect_drain {T : String} {St : Nat → List Value → Shared → Prop} {Fin : List Value → Shared → Prop} (D : Drains w A.in1 I s.heap.objs.size n St Fin) (hn : n ≤ sizeLine) (hT : ∀ {h}, Le s.heap h → ({ s with heap := h } : Shared).TypeIs (.ref I) T)
    (t1 : (Value.type T == Value.type "list") = false) (t2 : (Value.type T == Value.type "tuple") = false)
    (n1 : typeLookup (.type T) "__len__" = pure none) (n2 : typeLookup (.type T) "__length_hint__" = pure none)
    (self : ∀ {h} {Q : Value → Shared → Prop} {E : Value → Shared → Prop}, Le s.heap h → Q (.ref I) { s with heap := h } → wpAny (MM w) A.in1 (pyIter (.ref I)) Q E { s with heap := h })
    (h0 : ∀ h', Le s.heap h' → ListIs h' s.heap.objs.size [] → St 0 [] { s with heap := h' }) (hf : ∀ acc s', Fin acc s' → ListIs s'.heap s.heap.objs.size acc)
    {Q : List Value → Shared → Prop} {E : Value → Shared → Prop} (hQ : ∀ acc s', acc.length = n → Fin acc s' → Q acc s') : wpAny (MM w) A (collect (.ref I)) Q E s := by
  unfold collect
  refine wpAny_bind (wpAny_runValue (collect_code D hn hT t1 t2 n1 n2 self h0 fun acc s' hl hF => ?_))
  obtain ⟨c, hS⟩ := hf acc s' hF
  show wpAny _ A (load s.heap.objs.size >>= _) _ _ s'
  exact wpAny_bind (wpAny_load hS (wpAny_pure (hQ acc s' hl hF)))

/-- list(iterator) -/
theorem list_drain {T : String} {St : Nat → List Value → Shared → Prop} {Fin : List Value → Shared → Prop} (D : Drains w A.in1.in1 I s.heap.objs.size n St Fin) (hn : n ≤ sizeLine) (hT : ∀ {h}, Le s.heap h → ({ s with heap := h } : Shared).TypeIs (.ref I) T)
    (t1 : (Value.type T == Value.type "list") = false) (t2 : (Value.type T == Value.type "tuple") = false)
    (n1 : typeLookup (.type T) "__len__" = pure none) (n2 : typeLookup (.type T) "__length_hint__" = pure none)
    (self : ∀ {h} {Q : Value → Shared → Prop} {E : Value → Shared → Prop}, Le s.heap h → Q (.ref I) { s with heap := h } → wpAny (MM w) A.in1.in1 (pyIter (.ref I)) Q E { s with heap := h })
    (h0 : ∀ h', Le s.heap h' → ListIs h' s.heap.objs.size [] → St 0 [] { s with heap := h' })
    {Q : Value → Shared → Prop} {E : Value → Shared → Prop} (hQ : ∀ acc s', acc.length = n → Fin acc s' → Q (.ref s.heap.objs.size) s') : wpAny (MM w) A (call (.type "list") [.ref I]) Q E s := by
  have n0 := get_size s.heap
  have l := Le.push s.heap { cls := .type "list", data := .seq #[] }
  have hSI : s.heap.objs.size ≠ I := fun e => by obtain ⟨o, ho, _⟩ := hT (Le.refl s.heap); exact nomatch (e ▸ n0).symm.trans ho
  refine callType_codes (Q₁ := fun obj s₁ => obj = .ref s.heap.objs.size ∧ s₁ = { s with heap := s.heap.push { cls := .type "list", data := .seq #[] } }) F.called_list (F.typeCall_list_1 _) F.entry_list_init
    (code_list_new _ ⟨rfl, rfl⟩) fun obj s₁ h₁ => ?_
  obtain ⟨rfl, rfl⟩ := h₁
  have hS : (s.heap.push { cls := .type "list", data := .seq #[] }).get? s.heap.objs.size = some { cls := .type "list", data := .seq #[] } := Heap.get?_push_size _ rfl
  refine ⟨⟨_, hS, rfl⟩, F.args_list_init_2 _ _, ?_⟩
  show wpAny _ A.in1.in1 (do let old ← Builtin.List.listItems (.ref s.heap.objs.size); Builtin.List.listUpdate (.ref s.heap.objs.size) (fun _ => #[]); letGo old.toList.reverse; Builtin.List.listExtendWith (.ref s.heap.objs.size) (.ref I) .none) _ _ _
  refine wpAny_bind ?_
  unfold Builtin.List.listItems
  refine wpAny_bind (wpAny_seqItems hS rfl (wpAny_pure ?_))
  show wpAny _ A.in1.in1 (updateSeq s.heap.objs.size (fun _ => #[]) >>= fun _ => letGo (#[] : Array Value).toList.reverse >>= fun _ => Builtin.List.listExtendWith (.ref s.heap.objs.size) (.ref I) .none) _ _ _
  refine wpAny_bind (wpAny_updateSeq hS rfl ?_)
  have hS₂ := Heap.get?_update_self (Obj.mapSeq (fun _ => (#[] : Array Value))) hS rfl
  have l2 : Le s.heap ((s.heap.push { cls := .type "list", data := .seq #[] }).update s.heap.objs.size (Obj.mapSeq (fun _ => (#[] : Array Value)))) := fun b o e =>
    (Heap.get?_update_other _ _ (fun q : s.heap.objs.size = b => nomatch (q ▸ n0).symm.trans e)).trans (l b o e)
  refine wpAny_bind (wpAny_letGo ?_)
  refine extend_drain (s := { s with heap := _ }) D hn (hT l2) hSI t1 t2 n1 n2 (fun h => self l2 h) ⟨_, hS₂⟩ (fun h' sb hS => h0 h' (fun b o e => (sb.2 b fun q => nomatch (q ▸ n0).symm.trans e).trans (l2 b o e)) hS) fun acc s' hl hF => ?_
  exact ⟨rfl, hQ acc s' hl hF⟩

/-- tuple(iterator) -/
theorem tuple_drain {T : String} {St : Nat → List Value → Shared → Prop} {Fin : List Value → Shared → Prop} (D : Drains w A.in1.in1.in1 I s.heap.objs.size n St Fin) (hn : n ≤ sizeLine) (hT : ∀ {h}, Le s.heap h → ({ s with heap := h } : Shared).TypeIs (.ref I) T)
    (t0 : (Value.type T == Value.type "tuple") = false) (t1 : (Value.type T == Value.type "list") = false)
    (n1 : typeLookup (.type T) "__len__" = pure none) (n2 : typeLookup (.type T) "__length_hint__" = pure none)
    (self : ∀ {h} {Q : Value → Shared → Prop} {E : Value → Shared → Prop}, Le s.heap h → Q (.ref I) { s with heap := h } → wpAny (MM w) A.in1.in1.in1 (pyIter (.ref I)) Q E { s with heap := h })
    (h0 : ∀ h', Le s.heap h' → ListIs h' s.heap.objs.size [] → St 0 [] { s with heap := h' }) (hf : ∀ acc s', Fin acc s' → ListIs s'.heap s.heap.objs.size acc)
    (hex : ∀ {A : Around} {Q : Bool → Shared → Prop} {E : Value → Shared → Prop}, Q false s → wpAny (MM w) A (Builtin.Tuple.tupleIsExact (.ref I)) Q E s)
    {Q : Value → Shared → Prop} {E : Value → Shared → Prop} (hQ : ∀ acc s', acc.length = n → Fin acc s' → Q (.ref s'.heap.objs.size) { s' with heap := s'.heap.push { cls := .type "tuple", data := .seq acc.toArray } }) : wpAny (MM w) A (call (.type "tuple") [.ref I]) Q E s := by
  refine callType_codes (Q₁ := fun obj s₁ => s₁.TypeIs obj "tuple" ∧ Q obj s₁) F.called_tuple (F.typeCall_tuple_1 _) F.entry_object_init ?_ fun obj s₁ h₁ => ?_
  · refine codeAny_of_tree ?_
    show wpAny _ A.in1.in1 (do checkBuiltinCall "tuple.__new__" ⟨[.type "tuple", .ref I], []⟩; again (.builtin "tuple.__new__" ⟨[.type "tuple", .ref I], []⟩)) _ _ s
    refine wpAny_bind (wpAny_of_eq (F.newCall_tuple_1 _) (wpAny_pure ⟨plainId_quiet F.plain_tuple_new _, codeAny_builtin F.entry_tuple_new ?_⟩))
    rw [Around.under_plainId F.plain_tuple_new _]
    have hsub := sub_tuple_self
    have hinit := init_tuple_lookup
    have hmh := madeHere_tuple
    have hTI : s.TypeIs (.ref I) T := hT (Le.refl _)
    wp_walk using wpAny_typeOf hTI, hex, collect_drain D hn hT t1 t0 n1 n2 self h0 hf
    intro acc s' hl hF
    show wpAny _ _ (Builtin.Tuple.tupleExact acc.toArray >>= fun v => ret v) _ _ _
    unfold Builtin.Tuple.tupleExact
    refine wpAny_bind (wpAny_newObj_type ?_ (by show acc.toArray.size ≤ sizeLine; rw [List.size_toArray, hl]; exact hn))
    exact wpAny_pure ⟨⟨_, Heap.get?_push_size _ rfl, rfl⟩, hQ acc s' hl hF⟩
  · exact ⟨h₁.1, F.args_object_init_2 obj _, object_init_meets F.called_tuple.init.lookup F.called_tuple.made (by decide) PG w A.in1 _ s₁ ⟨h₁.1, rfl, h₁.2⟩⟩
end
end Mine
end

noncomputable section
open PySem PySem.W PyProof.Rows PySem.SeqAt
namespace Mine
theorem mro_map : mroOf (.type "map") = pure [.type "map", .type "object"] := by rw [mroOf_type]; kernel_rfl
theorem lookup_map_new : typeLookup (.type "map") "__new__" = pure (some (.builtin "map.__new__")) := by rw [typeLookup_type, builtinLookup_eq_fast]; kernel_rfl
theorem slot_map_init : PySem.Slot "map" "__init__" "object.__init__" :=
  PySem.Slot.of (owner := "object") (n := "__init__") (by rw [typeLookup_type, builtinLookup_eq_fast]; kernel_rfl) (by decide +kernel) (by decide +kernel) (by decide +kernel)
    (by first | exact .inl (by decide +kernel) | exact .inr (by decide +kernel)) (by rw [isSubtype_type]; kernel_rfl)
theorem called_map : TypeCalled "map" "map.__new__" "object.__init__" :=
  ⟨by decide +kernel, by decide +kernel, ⟨_, _, mro_map⟩, madeBy_type mro_map lookup_map_new (by decide +kernel), by decide +kernel, by rw [isSubtype_type]; kernel_rfl, slot_map_init⟩
theorem typeCall_map_2 (a b : Value) : checkTypeCall "map" ⟨[a, b], []⟩ = pure () := by kernel_rfl
theorem newCall_map_2 (a b : Value) : checkBuiltinCall "map.__new__" ⟨[.type "map", a, b], []⟩ = pure () := by kernel_rfl
theorem entry_map_new : entryFor table "map.__new__" = some Builtin.«map.__new__» := entryFor_of_tree (by kernel_rfl)
theorem slot_map_next : PySem.Slot "map" "__next__" "map.__next__" :=
  PySem.Slot.of (owner := "map") (n := "__next__") (by rw [typeLookup_type, builtinLookup_eq_fast]; kernel_rfl) (by decide +kernel) (by decide +kernel) (by decide +kernel)
    (by first | exact .inl (by decide +kernel) | exact .inr (by decide +kernel)) (by rw [isSubtype_type]; kernel_rfl)
theorem slot_map_iter : PySem.Slot "map" "__iter__" "map.__iter__" :=
  PySem.Slot.of (owner := "map") (n := "__iter__") (by rw [typeLookup_type, builtinLookup_eq_fast]; kernel_rfl) (by decide +kernel) (by decide +kernel) (by decide +kernel)
    (by first | exact .inl (by decide +kernel) | exact .inr (by decide +kernel)) (by rw [isSubtype_type]; kernel_rfl)
theorem entry_map_next : entryFor table "map.__next__" = some Builtin.«map.__next__» := entryFor_of_tree (by kernel_rfl)
theorem entry_map_iter : entryFor table "map.__iter__" = some Builtin.«dict_keyiterator.__iter__» :=
  entryFor_alias (id' := "dict_keyiterator.__iter__") (by kernel_rfl) (by first | rfl | decide +kernel | (unfold String.splitOn; simp +decide [String.splitOnAux])) (by decide +kernel) (by kernel_rfl)
theorem args_map_next (a : Value) : argsOk "map.__next__" ⟨[a], []⟩ := by unfold argsOk; kernel_rfl
theorem args_map_iter (a : Value) : argsOk "map.__iter__" ⟨[a], []⟩ := by unfold argsOk; kernel_rfl
theorem sub_map : isSubtype (.type "map") (.type "map") = pure true := by rw [isSubtype_type]; kernel_rfl
theorem map_nolen : typeLookup (.type "map") "__len__" = pure none := by rw [typeLookup_type, builtinLookup_eq_fast]; kernel_rfl
theorem map_nohint : typeLookup (.type "map") "__length_hint__" = pure none := by rw [typeLookup_type, builtinLookup_eq_fast]; kernel_rfl
theorem zip_nolen : typeLookup (.type "zip") "__len__" = pure none := by rw [typeLookup_type, builtinLookup_eq_fast]; kernel_rfl
theorem zip_nohint : typeLookup (.type "zip") "__length_hint__" = pure none := by rw [typeLookup_type, builtinLookup_eq_fast]; kernel_rfl

noncomputable abbrev IsMap (h : Heap) (m TI : Addr) (f : Value) : Prop := h.get? m = some { cls := .type "map", dict := none, data := .fields #[.ref TI, f], slots := #[] }
noncomputable abbrev IsOne (h : Heap) (T : Addr) (a : Value) : Prop := h.get? T = some { cls := .type "tuple", data := .seq #[a] }
section
variable {w : World} {A : Around} {E : Value → Shared → Prop} {s : Shared} {m TI i1 l : Addr} {f : Value} {xs : Array Value} {k : Nat}

noncomputable abbrev mapH1 (h : Heap) (l : Addr) : Heap := h.push { cls := .type "list_iterator", data := .fields #[.ref l, .int 0 0] }
noncomputable abbrev mapH2 (h : Heap) (l : Addr) : Heap := (mapH1 h l).push { cls := .type "tuple", data := .seq #[.ref h.objs.size] }
noncomputable abbrev mapH3 (h : Heap) (l : Addr) (f : Value) : Heap := (mapH2 h l).push { cls := .type "map", data := .fields #[.ref (mapH1 h l).objs.size, f] }
theorem meets_map_new (f : Value) (l : Addr) (xs : Array Value) :
    Meets (Builtin.«map.__new__» ⟨[.type "map", f, .ref l], []⟩) (fun _ R s => s.heap.IsList l xs ∧ R (.ok (.ret (.ref (mapH2 s.heap l).objs.size))) { s with heap := mapH3 s.heap l f }) :=
  .of_wp fun prog w A R s h => by
    obtain ⟨hp, g, d, tk, os⟩ := s; obtain ⟨hl1, h⟩ := h
    have hsub := sub_map
    have hL1 : Heap.IsList (Shared.heap ⟨hp, g, d, tk, os⟩) l xs := hl1
    wp_walk using wpAny_pyIter_list hL1
    exact ⟨_, rfl, h⟩
theorem call_map {Q : Value → Shared → Prop} (hl : s.heap.IsList l xs) (h : ∀ h', IsMap h' (s.heap.objs.size + 2) (s.heap.objs.size + 1) f → IsOne h' (s.heap.objs.size + 1) (.ref s.heap.objs.size) → h'.IsListIter s.heap.objs.size l 0 → Le s.heap h' → Q (.ref (s.heap.objs.size + 2)) { s with heap := h' }) :
    wpAny (MM w) A (call (.type "map") [f, .ref l]) Q E s := by
  refine callType_new called_map (by decide) (typeCall_map_2 _ _) (newCall_map_2 _ _) (fun obj => F.args_object_init_3 obj _ _) entry_map_new (meets_map_new f l xs) ⟨hl, ?_⟩
  have z1 : (mapH1 s.heap l).objs.size = s.heap.objs.size + 1 := Heap.size_push ..
  have z2 : (mapH2 s.heap l).objs.size = s.heap.objs.size + 2 := by rw [Heap.size_push, z1]
  have g3 : (mapH3 s.heap l f).get? (mapH2 s.heap l).objs.size = some _ := Heap.get?_push_size _ rfl
  have g2 : (mapH3 s.heap l f).get? (mapH1 s.heap l).objs.size = some _ := Heap.get?_push_of_some _ (Heap.get?_push_size _ rfl)
  have g1 : (mapH3 s.heap l f).get? s.heap.objs.size = some _ := Heap.get?_push_of_some _ (Heap.get?_push_of_some _ (Heap.get?_push_size _ rfl))
  show _ ∧ _
  rw [z2, z1] at g3
  rw [z1] at g2
  rw [z2]
  exact ⟨⟨_, g3, rfl⟩, h _ g3 g2 ⟨_, g1, rfl, rfl⟩ fun c o x => Heap.get?_push_of_some _ (Heap.get?_push_of_some _ (Heap.get?_push_of_some _ x))⟩
theorem pyIter_map {Q : Value → Shared → Prop} (hm : IsMap s.heap m TI f) (h : Q (.ref m) s) : wpAny (MM w) A (pyIter (.ref m)) Q E s := by
  have hT : s.TypeIs (.ref m) "map" := ⟨_, hm, rfl⟩
  refine wpAny_pyIter_slot hT slot_map_iter (wpAny_call_entry slot_map_iter hT entry_map_iter ?_ (args_map_iter _))
  show wpAny _ _ (ret (.ref m)) _ _ s
  exact wpAny_pure ⟨_, rfl, "map", _, hT, slot_map_next.lookup, h⟩
theorem pyNext_map_item {x : Value} {Q : Option Value → Shared → Prop} (hm : IsMap s.heap m TI f) (hTI : IsOne s.heap TI (.ref i1)) (hne : m ≠ i1) (hi : s.heap.IsListIter i1 l k) (hl : s.heap.IsList l xs) (hx : xs[k]? = some x)
    (h : ∀ h1, Heap.SameBut i1 s.heap h1 → h1.IsListIter i1 l (k + 1) → wpAny (MM w) A.in1 (call f [x]) (fun v s' => Q (some v) s') (fun _ _ => False) { s with heap := h1 }) : wpAny (MM w) A (pyNext (.ref m)) Q E s := by
  have hT : s.TypeIs (.ref m) "map" := ⟨_, hm, rfl⟩
  unfold pyNext
  refine wpAny_bind (wpAny_attempt (wpAny_callSpecial?_slot (name := Str.ofString "__next__") hT slot_map_next (wpAny_call_entry slot_map_next hT entry_map_next ?_ (args_map_next _))))
  unfold Builtin.«map.__next__»
  refine wpAny_bind (wpAny_pure ?_)
  refine wpAny_bind (wpAny_field hm rfl (x := .ref TI) rfl ?_)
  refine wpAny_bind (wpAny_seqItems hTI rfl ?_)
  dsimp only
  refine wpAny_bind ?_
  rw [← Array.forIn_toList, List.forIn_cons]
  refine wpAny_bind (wpAny_bind (wpAny_holding (wpAny_nextOf_list_item hi hl hx fun h1 hi1 sb => wpAny_pure ?_)))
  dsimp only
  rw [List.forIn_nil]
  refine wpAny_pure ?_
  have hm1 : IsMap h1 m TI f := (sb.2 m hne).trans hm
  refine wpAny_bind (wpAny_field hm1 rfl (x := f) rfl ?_)
  refine wpAny_bind (wpAny_holding (wpAny_mono (h h1 sb hi1) (fun v s' q => wpAny_bind (wpAny_letGo (wpAny_pure ⟨_, rfl, wpAny_pure q⟩))) fun _ _ e => e.elim))
theorem pyNext_map_end {Q : Option Value → Shared → Prop} (hh : A.handled = none) (hm : IsMap s.heap m TI f) (hTI : IsOne s.heap TI (.ref i1)) (hi : s.heap.IsListIter i1 l k) (hl : s.heap.IsList l xs) (hx : xs[k]? = none)
    (h : ∀ h1, Heap.ExtBut i1 s.heap h1 → Q none { s with heap := h1 }) : wpAny (MM w) A (pyNext (.ref m)) Q E s := by
  have hT : s.TypeIs (.ref m) "map" := ⟨_, hm, rfl⟩
  unfold pyNext
  refine wpAny_bind (wpAny_attempt (wpAny_callSpecial?_slot (name := Str.ofString "__next__") hT slot_map_next (wpAny_call_entry slot_map_next hT entry_map_next ?_ (args_map_next _))))
  unfold Builtin.«map.__next__»
  refine wpAny_bind (wpAny_pure ?_)
  refine wpAny_bind (wpAny_field hm rfl (x := .ref TI) rfl ?_)
  refine wpAny_bind (wpAny_seqItems hTI rfl ?_)
  dsimp only
  refine wpAny_bind ?_
  rw [← Array.forIn_toList, List.forIn_cons]
  refine wpAny_bind (wpAny_bind (wpAny_holding (wpAny_nextOf_list_end hh hi hl hx fun h1 e eb he => ?_)))
  obtain ⟨o, ho, hc⟩ := he
  exact wpAny_bind (wpAny_isInstance (T := "StopIteration") (b := true) ⟨o, ho, hc⟩ isSubtype_stop (wpAny_pure (h h1 eb)))
end

section
variable {w : World} {k j : Nat} {A : Around} {R R' h h' : Heap} {s s' : Shared}

/-- the state between two items of map(f, list) -/
structure MapSt (w : World) (hb : Heap) (s₀ : Shared) (m TI i1 l S : Addr) (f : Value) (vs : List Value) (xs : List Str) (i : Nat) (acc : List Value) (s : Shared) : Prop where
  le : Le hb s.heap
  same : ∃ h t d, s = { s₀ with heap := h, toks := t, drawn := d }
  m : IsMap s.heap m TI f
  TI : IsOne s.heap TI (.ref i1)
  it : s.heap.IsListIter i1 l i
  S : ListIs s.heap S acc
  acc : StrsAre acc (xs.take i)

theorem strs_snoc {vs : List Value} {ss : List Str} (S : StrsAre vs ss) (x : Str) (t : Tok) : StrsAre (vs ++ [.str x t]) (ss ++ [x]) := by
  induction S with
  | nil => exact .cons x t .nil
  | cons y u r ih => exact .cons y u ih
theorem isListIter_keep {i1 l : Addr} {k : Nat} (x : h.IsListIter i1 l k) (e : ∀ o, h.get? i1 = some o → h'.get? i1 = some o) : h'.IsListIter i1 l k := let ⟨o, ho, r⟩ := x; ⟨o, e o ho, r⟩

theorem map_drains {hb : Heap} {s₀ : Shared} {m TI i1 l S : Addr} {f : Value} {vs : List Value} {xs : List Str} (hj : j ≤ 4) (hc : ∀ x ∈ xs, Contract w j f [.str x] (.str x)) (rm : Room (j + 1) A) (B : Base w (frs A) hb) (lR : Le R hb)
    (hl : hb.IsList l vs.toArray) (rs : StrsAre vs xs) (ni : hb.get? i1 = none) (nS : hb.get? S = none) (ne : m ≠ i1) (neT : TI ≠ i1) (neS : S ≠ i1) (mS : m ≠ S) (TS : TI ≠ S) :
    Drains w A m S xs.length (MapSt w hb s₀ m TI i1 l S f vs xs) (fun acc s' => Le hb s'.heap ∧ (∃ h t d, s' = { s₀ with heap := h, toks := t, drawn := d }) ∧ ListIs s'.heap S acc ∧ StrsAre acc xs) where
  list := fun st => st.S
  item := fun {i acc s Q E} hi st hl' hq => by
    obtain ⟨t, hv⟩ := strs_at rs i hi
    have hx : vs.toArray[i]? = some (.str xs[i] t) := by simpa using hv
    have hxs : xs[i] ∈ xs := List.getElem_mem hi
    refine pyNext_map_item st.m st.TI ne st.it (isList_mono st.le hl) hx fun h1 sb hi1 => ?_
    have l1 : Le hb h1 := fun b o e => (sb.2 b fun q => nomatch (q ▸ ni).symm.trans e).trans (st.le b o e)
    have k1 : ∀ {b}, b ≠ i1 → h1.get? b = s.heap.get? b := fun {b} nb => sb.2 b nb
    refine (hc _ hxs).exact (s := { s with heap := h1 }) (A := A.in1) (R := R) hj rm.in1 (B.mono (.of_le l1)) (lR.trans l1) (.cons (.str _ t) .nil) fun v R' s' st' le' lR' rv => ?_
    replace rv := rv.str_inv
    obtain ⟨t', rfl⟩ := rv
    obtain ⟨c, hS⟩ := st.S
    have hS1 : h1.get? S = some (seqObj "list" acc.toArray c) := (k1 neS).trans hS
    refine hq _ s' ⟨c, le' _ _ hS1⟩ fun h' sb' hS' => ?_
    have k2 : ∀ {b o}, b ≠ S → h1.get? b = some o → h'.get? b = some o := fun {b o} nb e => (sb'.2 b nb).trans (le' b o e)
    obtain ⟨a1, a2, a3, e1⟩ := st.same
    obtain ⟨b1, b2, b3, e2⟩ := st'.same
    refine ⟨fun b o e => k2 (fun q => nomatch (q ▸ nS).symm.trans e) (l1 b o e), ⟨h', b2, b3, by rw [e2, e1]⟩, k2 mS ((k1 ne).trans st.m), k2 TS ((k1 neT).trans st.TI), isListIter_keep hi1 fun o e => k2 neS.symm e, hS', ?_⟩
    rw [List.take_succ, List.getElem?_eq_getElem hi]
    exact strs_snoc st.acc _ _
  done := fun {acc s Q E} st hl' hq => by
    have hx : vs.toArray[xs.length]? = none := by simp [strs_len rs]
    refine pyNext_map_end rm.h st.m st.TI st.it (isList_mono st.le hl) hx fun h1 eb => ?_
    obtain ⟨c, hS⟩ := st.S
    obtain ⟨a1, a2, a3, e1⟩ := st.same
    refine hq _ ⟨fun b o e => eb b o (fun q => nomatch (q ▸ ni).symm.trans e) (st.le b o e), ⟨h1, a2, a3, by rw [e1]⟩, ⟨c, eb _ _ neS hS⟩, ?_⟩
    have := st.acc
    rwa [List.take_length] at this
end
end Mine
end

noncomputable section
open PySem PySem.W PyProof.Rows PySem.SeqAt
namespace Mine
section
variable {w : World} {k j : Nat} {A : Around} {R R' h h' : Heap} {s s' : Shared} {sc : Scope} {σ σ' σ₁ σ₂ : St}
theorem tuple_map {f : Value} {xs : List Str} {v : Value} (hj : j ≤ 4) (hc : ∀ x ∈ xs, Contract w j f [.str x] (.str x)) (c : Cx w k A R s) (hk : j + 4 ≤ k) (hz : xs.length ≤ sizeLine) (r : Rep w R (.list (xs.map .str)) v) :
    wpAny (MM w) A (call (.type "map") [f, v]) (fun mv s₁ => wpAny (MM w) A (call (.type "tuple") [mv]) (fun v' s' => ∃ R', Mv A R R' s s' ∧ Rep w R' (.tup (xs.map .str)) v') (fun _ _ => False) s₁) (fun _ _ => False) s := by
  replace r := r.list_inv
  obtain ⟨a, vs, rfl, hl, rs⟩ := r
  have hl' := isList_mono c.ext hl
  refine call_map hl' fun h1 hm hTI hit le => ?_
  have ni := get_size s.heap
  have n1 := get_size h1
  have nS : s.heap.get? h1.objs.size = none := none_of fun o e => nomatch n1.symm.trans (le _ _ e)
  have mS : s.heap.objs.size + 2 ≠ h1.objs.size := fun e => nomatch (e ▸ n1).symm.trans hm
  have TS : s.heap.objs.size + 1 ≠ h1.objs.size := fun e => nomatch (e ▸ n1).symm.trans hTI
  have iS : h1.objs.size ≠ s.heap.objs.size := fun e => by obtain ⟨o, ho, _⟩ := hit; exact nomatch (e ▸ n1).symm.trans ho
  have rm : Room (j + 1) A.in1.in1.in1 := ((c.room.le (show j + 4 ≤ k from hk)).in1).in1.in1
  have D := map_drains (w := w) (A := A.in1.in1.in1) (R := R) (hb := s.heap) (s₀ := s) (m := s.heap.objs.size + 2) (TI := s.heap.objs.size + 1) (i1 := s.heap.objs.size) (l := a) (S := h1.objs.size) (f := f) (vs := vs) hj hc rm c.base c.ext hl' rs.strs ni nS (Nat.ne_of_gt (Nat.lt_add_of_pos_right (by decide))) (Nat.ne_of_gt (Nat.lt_add_of_pos_right (by decide))) iS mS TS
  refine tuple_drain (s := { s with heap := h1 }) (T := "map") D hz (fun l => ⟨_, l _ _ hm, rfl⟩) (by decide) (by decide) map_nolen map_nohint (fun l q => pyIter_map (l _ _ hm) q) (fun h2 l hS => ?_) (fun acc s' hF => hF.2.2.1) (fun {A Q E} q => ?_) fun acc s' hl2 hF => ?_
  · exact ⟨fun b o e => l _ _ (le _ _ e), ⟨h2, s.toks, s.drawn, rfl⟩, l _ _ hm, l _ _ hTI, isListIter_keep hit fun o e => l _ _ e, hS, .nil⟩
  · unfold Builtin.Tuple.tupleIsExact
    refine wpAny_bind (wpAny_typeOf (T := "map") ⟨_, hm, rfl⟩ (wpAny_pure ?_))
    exact q
  · obtain ⟨l2, ⟨h3, t3, d3, rfl⟩, hS, hacc⟩ := hF
    have l3 := Le.push h3 { cls := .type "tuple", data := .seq acc.toArray }
    have n3 := get_size h3
    have nn : s.heap.get? h3.objs.size = none := none_of fun o e => nomatch n3.symm.trans (l2 _ _ e)
    exact ⟨_, Mv.add (t := t3) (d := d3) c (l2.trans l3) nn, .tup ⟨_, addR_self (c.ext.trans (l2.trans l3)) (Heap.get?_push_size _ rfl), rfl, 0, rfl⟩ (RepL.of_strs hacc)⟩

/-- tuple(map(f, xs)) -/
theorem ev_tuple_map {x1 x2 : Str} {p1 p2 pos pos2 : Pos} {e1 e2 : PySem.Expr} {f : Value} {xs : List Str} (hj : j ≤ 4) (hc : ∀ x ∈ xs, Contract w j f [.str x] (.str x)) (hk : j + 4 ≤ k) (hz : xs.length ≤ sizeLine)
    (h1 : Ev w k sc σ (.Name x1 p1) (.val (.type "tuple")) σ) (h2 : Ev w k sc σ (.Name x2 p2) (.val (.type "map")) σ) (h3 : Ev w k sc σ e1 (.val f) σ) (h4 : Ev w k sc σ e2 (.list (xs.map .str)) σ)
    (hs1 : ∀ env, backTo pos2 (starEach [e1, e2] env) = [(false, eval e1 env), (false, eval e2 env)] := by intro _; rfl)
    (hs2 : ∀ env, backTo pos (starEach [.Call (.Name x2 p2) [e1, e2] [] pos2] env) = [(false, eval (.Call (.Name x2 p2) [e1, e2] [] pos2) env)] := by intro _; rfl) :
    Ev w k sc σ (.Call (.Name x1 p1) [.Call (.Name x2 p2) [e1, e2] [] pos2] [] pos) (.tup (xs.map .str)) σ := fun A F h₀ R s rm S => by
  refine Call_Name rfl (wp_then (h1 A F h₀ R s rm S) fun v R₁ s₁ st₁ S₁ q₁ => ?_)
  cases q₁
  rw [hs2]
  refine PyProof.Rows.callWith_type rfl (Calls.evalArgs_plain (Calls.spliced_cons ?_))
  refine Call_Name rfl (wp_then (h2 A F h₀ R₁ s₁ rm S₁) fun v R₂ s₂ st₂ S₂ q₂ => ?_)
  cases q₂
  rw [hs1]
  refine PyProof.Rows.callWith_type rfl (Calls.evalArgs_plain (Calls.spliced_cons (wp_then (h3 A F h₀ R₂ s₂ rm S₂) fun v R₃ s₃ st₃ S₃ q₃ => Calls.spliced_cons (wp_then (h4 A F h₀ R₃ s₃ rm S₃) fun u R₄ s₄ st₄ S₄ q₄ => Calls.spliced_nil ?_))))
  cases q₃
  refine wpAny_mono (tuple_map hj hc (S₄.cx rm) hk hz q₄) (fun mv s₅ h => Calls.spliced_nil (wpAny_mono h (fun v' s' ⟨R', mv', r⟩ => ?_) fun _ _ e => e.elim)) fun _ _ e => e.elim
  exact ⟨R', (((st₁.trans st₂).trans st₃).trans st₄).trans (S₄.step mv'), S₄.mv mv', r⟩
end

section
variable {w : World} {k j : Nat} {A : Around} {R R' h h' : Heap} {s s' : Shared} {z TI TO i1 i2 l1 l2 T : Addr} {fl : Bool} {xs ys : Array Value} {n : Nat}
noncomputable abbrev IsZipF (h : Heap) (z TI TO : Addr) (f0 : Value) (fl : Bool) : Prop := h.get? z = some { cls := .type "zip", dict := none, data := .fields #[f0, .bool fl, .bool false, .ref TI, .ref TO], slots := #[] }
theorem free_out (hz : IsZipF s.heap z TI TO (rawInt (T : Nat)) fl) (hT : ∃ o, s.heap.get? T = some o) {Q : Bool → Shared → Prop} {E : Value → Shared → Prop}
    (h : ∀ h₁, Heap.SameBut z s.heap h₁ → IsZipF h₁ z TI TO (rawInt (T : Nat)) true → Q false { s with heap := h₁ }) : wpAny (MM w) A (Builtin.SmallTypes.ownedTupleIsFree (.ref z)) Q E s := by
  unfold Builtin.SmallTypes.ownedTupleIsFree
  refine wpAny_bind (wpAny_field hz rfl (x := rawInt (T : Nat)) rfl ?_)
  dsimp only [rawInt]
  refine wpAny_bind (loadIfAlive_any ?_)
  obtain ⟨oT, hoT⟩ := hT
  rw [show ((T : Nat) : Int).toNat = T from Int.toNat_natCast T, hoT]
  rw [if_neg (by simp)]
  refine wpAny_bind (wpAny_field hz rfl (x := .bool fl) rfl ?_)
  cases fl with
  | true =>
    rw [if_neg (by decide)]
    exact wpAny_pure (h _ (.refl ..) hz)
  | false =>
    rw [if_pos (by decide)]
    exact wpAny_bind (wpAny_setField_rec hz (by simp) fun h₁ hz₁ hs₁ => wpAny_pure (h h₁ hs₁ hz₁))
theorem zip_out_item {x y : Value} (hz : IsZipF s.heap z TI TO (rawInt (T : Nat)) fl) (hT : ∃ o, s.heap.get? T = some o) (hTI : IsPair s.heap TI (.ref i1) (.ref i2)) (h1 : s.heap.IsListIter i1 l1 n) (h2 : s.heap.IsListIter i2 l2 n)
    (hl1 : s.heap.IsList l1 xs) (hl2 : s.heap.IsList l2 ys) (hx : xs[n]? = some x) (hy : ys[n]? = some y) (d1 : i1 ≠ z) (d2 : i2 ≠ z) (d3 : i1 ≠ i2) (d4 : TI ≠ z) (e1 : l1 ≠ z) (e2 : l2 ≠ z) (e3 : l2 ≠ i1)
    {Q : Option Value → Shared → Prop} {E : Value → Shared → Prop}
    (hq : ∀ h', IsZipF h' z TI TO (rawInt (T : Nat)) true → h'.IsListIter i1 l1 (n + 1) → h'.IsListIter i2 l2 (n + 1) → IsPair h' s.heap.objs.size x y → (∀ c o, c ≠ z → c ≠ i1 → c ≠ i2 → s.heap.get? c = some o → h'.get? c = some o) → Q (some (.ref s.heap.objs.size)) { s with heap := h' }) :
    wpAny (MM w) A (pyNext (.ref z)) Q E s := by
  have hTy : s.TypeIs (.ref z) "zip" := ⟨_, hz, rfl⟩
  unfold pyNext
  refine wpAny_bind (wpAny_attempt (wpAny_callSpecial?_slot (name := Str.ofString "__next__") hTy F.slot_zip_next (wpAny_call_entry F.slot_zip_next hTy F.entry_zip_next ?_ (F.args_zip_next_1 _))))
  show wpAny _ _ (field (.ref z) 2 >>= _) _ _ _
  refine wpAny_bind (wpAny_field hz rfl (x := .bool false) rfl ?_)
  show wpAny _ _ (field (.ref z) 3 >>= _) _ _ _
  refine wpAny_bind (wpAny_field hz rfl (x := .ref TI) rfl ?_)
  refine wpAny_bind (wpAny_seqItems hTI rfl ?_)
  show wpAny _ _ (Builtin.SmallTypes.ownedTupleIsFree (.ref z) >>= _) _ _ _
  refine wpAny_bind (free_out hz hT fun h₁ sb hz₁ => ?_)
  rw [if_neg (by decide)]
  refine wpAny_bind ?_
  rw [← Array.forIn_toList, List.forIn_cons]
  have ex : ∀ c o, c ≠ z → s.heap.get? c = some o → h₁.get? c = some o := fun c o nc e => (sb.2 c nc).trans e
  have at1 : ∀ {c l : Addr} {k : Nat}, c ≠ z → s.heap.IsListIter c l k → h₁.IsListIter c l k := fun nc i => let ⟨o, ho, r⟩ := i; ⟨o, ex _ o nc ho, r⟩
  have li : ∀ {c : Addr} {vs : Array Value}, c ≠ z → s.heap.IsList c vs → h₁.IsList c vs := fun nc i => let ⟨o, ho, r⟩ := i; ⟨o, ex _ o nc ho, r⟩
  refine wpAny_bind (wpAny_bind (wpAny_holding ?_))
  show wpAny _ _ (Builtin.SmallTypes.nextOf (.ref i1) >>= _) _ _ _
  refine wpAny_bind (wpAny_nextOf_list_item (at1 d1 h1) (li e1 hl1) hx fun h₂ h1₂ hs₂ => wpAny_pure ?_)
  refine wpAny_pure ?_
  dsimp only
  rw [List.forIn_cons]
  refine wpAny_bind (wpAny_bind (wpAny_holding ?_))
  show wpAny _ _ (Builtin.SmallTypes.nextOf (.ref i2) >>= _) _ _ _
  refine wpAny_bind (wpAny_nextOf_list_item ((at1 d2 h2).extBut hs₂.extBut d3.symm) ((li e2 hl2).extBut hs₂.extBut e3) hy fun h₃ h2₃ hs₃ => wpAny_pure ?_)
  refine wpAny_pure ?_
  dsimp only
  rw [List.forIn_nil]
  refine wpAny_pure ?_
  dsimp only
  refine wpAny_bind (wpAny_newTuple ?_ (by show (2 : Nat) ≤ sizeLine; rw [sizeLine_eq]; decide))
  have hsz : h₃.objs.size = s.heap.objs.size := by rw [hs₃.1, hs₂.1, sb.1]
  refine wpAny_pure ⟨_, rfl, wpAny_pure ?_⟩
  have k3 : ∀ c o, c ≠ i1 → c ≠ i2 → h₁.get? c = some o → h₃.get? c = some o := fun c o n1 n2 e => (hs₃.2 c n2).trans ((hs₂.2 c n1).trans e)
  rw [hsz]
  have l4 := Le.push h₃ { cls := .type "tuple", data := .seq #[x, y] }
  refine hq _ (l4 _ _ (k3 _ _ d1.symm d2.symm hz₁)) (isListIter_keep (h1₂.extBut hs₃.extBut d3) fun o e => l4 _ _ e) (isListIter_keep h2₃ fun o e => l4 _ _ e) (hsz ▸ Heap.get?_push_size h₃ rfl) fun c o n1 n2 n3 e => l4 _ _ (k3 c o n2 n3 (ex c o n1 e))

theorem zip_out_end (hh : A.handled = none) (hz : IsZipF s.heap z TI TO (rawInt (T : Nat)) fl) (hT : ∃ o, s.heap.get? T = some o) (hTI : IsPair s.heap TI (.ref i1) (.ref i2)) (h1 : s.heap.IsListIter i1 l1 n)
    (hl1 : s.heap.IsList l1 xs) (hx : xs[n]? = none) (d1 : i1 ≠ z) (e1 : l1 ≠ z)
    {Q : Option Value → Shared → Prop} {E : Value → Shared → Prop} (hq : ∀ h', (∀ c o, c ≠ z → c ≠ i1 → s.heap.get? c = some o → h'.get? c = some o) → Q none { s with heap := h' }) :
    wpAny (MM w) A (pyNext (.ref z)) Q E s := by
  have hTy : s.TypeIs (.ref z) "zip" := ⟨_, hz, rfl⟩
  unfold pyNext
  refine wpAny_bind (wpAny_attempt (wpAny_callSpecial?_slot (name := Str.ofString "__next__") hTy F.slot_zip_next (wpAny_call_entry F.slot_zip_next hTy F.entry_zip_next ?_ (F.args_zip_next_1 _))))
  show wpAny _ _ (field (.ref z) 2 >>= _) _ _ _
  refine wpAny_bind (wpAny_field hz rfl (x := .bool false) rfl ?_)
  show wpAny _ _ (field (.ref z) 3 >>= _) _ _ _
  refine wpAny_bind (wpAny_field hz rfl (x := .ref TI) rfl ?_)
  refine wpAny_bind (wpAny_seqItems hTI rfl ?_)
  show wpAny _ _ (Builtin.SmallTypes.ownedTupleIsFree (.ref z) >>= _) _ _ _
  refine wpAny_bind (free_out hz hT fun h₁ sb hz₁ => ?_)
  rw [if_neg (by decide)]
  refine wpAny_bind ?_
  rw [← Array.forIn_toList, List.forIn_cons]
  have ex : ∀ c o, c ≠ z → s.heap.get? c = some o → h₁.get? c = some o := fun c o nc e => (sb.2 c nc).trans e
  have at1 : ∀ {c l : Addr} {k : Nat}, c ≠ z → s.heap.IsListIter c l k → h₁.IsListIter c l k := fun nc i => let ⟨o, ho, r⟩ := i; ⟨o, ex _ o nc ho, r⟩
  have li : ∀ {c : Addr} {vs : Array Value}, c ≠ z → s.heap.IsList c vs → h₁.IsList c vs := fun nc i => let ⟨o, ho, r⟩ := i; ⟨o, ex _ o nc ho, r⟩
  refine wpAny_bind (wpAny_bind (wpAny_holding ?_))
  show wpAny _ _ (Builtin.SmallTypes.nextOf (.ref i1) >>= _) _ _ _
  refine wpAny_bind (wpAny_nextOf_list_end hh (at1 d1 h1) (li e1 hl1) hx fun h₂ e eb he => ?_)
  obtain ⟨o, ho, hc⟩ := he
  exact wpAny_bind (wpAny_isInstance (T := "StopIteration") (b := true) ⟨o, ho, hc⟩ isSubtype_stop (wpAny_pure (hq h₂ fun c o n1 n2 e => eb c o n2 (ex c o n1 e))))
end
end Mine
end

noncomputable section
open PySem PySem.W PyProof.Rows PySem.SeqAt
namespace Mine
section
variable {w : World} {k j : Nat} {A : Around} {R R' h h' : Heap} {s s' : Shared} {z TI TO i1 i2 l1 l2 T : Addr} {fl : Bool} {n : Nat} {sc : Scope} {σ σ' σ₁ σ₂ : St}

noncomputable def PairOf (hb h : Heap) (z TO i1 i2 S : Addr) (x y v : Value) : Prop := ∃ T, v = .ref T ∧ IsPair h T x y ∧ hb.get? T = none ∧ T ≠ z ∧ T ≠ TO ∧ T ≠ i1 ∧ T ≠ i2 ∧ T ≠ S
structure ZipSt (hb : Heap) (s₀ : Shared) (z TI TO i1 i2 l1 l2 S : Addr) (vs us : List Value) (i : Nat) (acc : List Value) (s : Shared) : Prop where
  le : Le hb s.heap
  same : ∃ h t d, s = { s₀ with heap := h, toks := t, drawn := d }
  zz : (i = 0 ∧ IsZipF s.heap z TI TO .none false) ∨ (0 < i ∧ ∃ T fl, IsZipF s.heap z TI TO (rawInt (T : Nat)) fl ∧ (∃ o, s.heap.get? T = some o) ∧ T ≠ S ∧ T ≠ z ∧ T ≠ i1 ∧ T ≠ i2)
  tto : ∃ a b, IsPair s.heap TO a b
  tti : IsPair s.heap TI (.ref i1) (.ref i2)
  it1 : s.heap.IsListIter i1 l1 i
  it2 : s.heap.IsListIter i2 l2 i
  acl : ListIs s.heap S acc
  items : ∀ (j : Nat) (v : Value), acc[j]? = some v → ∃ x y, vs[j]? = some x ∧ us[j]? = some y ∧ PairOf hb s.heap z TO i1 i2 S x y v
structure ZipFin (hb : Heap) (s₀ : Shared) (z TO i1 i2 S : Addr) (vs us : List Value) (acc : List Value) (s : Shared) : Prop where
  le : Le hb s.heap
  same : ∃ h t d, s = { s₀ with heap := h, toks := t, drawn := d }
  acl : ListIs s.heap S acc
  items : ∀ (j : Nat) (v : Value), acc[j]? = some v → ∃ x y, vs[j]? = some x ∧ us[j]? = some y ∧ PairOf hb s.heap z TO i1 i2 S x y v

theorem zip_drains {hb : Heap} {s₀ : Shared} {S : Addr} {vs us : List Value} (hh : A.handled = none) (D : ZipApart z TI TO i1 i2 l1 l2) (hl1 : hb.IsList l1 vs.toArray) (hl2 : hb.IsList l2 us.toArray) (hlen : vs.length = us.length)
    (nz : hb.get? z = none) (nTO : hb.get? TO = none) (n1 : hb.get? i1 = none) (n2 : hb.get? i2 = none) (nS : hb.get? S = none) (zS : z ≠ S) (TIS : TI ≠ S) (TOS : TO ≠ S) (iS1 : i1 ≠ S) (iS2 : i2 ≠ S) (hpos : 0 < vs.length) :
    Drains w A z S vs.length (ZipSt hb s₀ z TI TO i1 i2 l1 l2 S vs us) (ZipFin hb s₀ z TO i1 i2 S vs us) where
  list := fun st => st.acl
  item := fun {i acc s Q E} hi st hl hq => by
    have hx : vs.toArray[i]? = some vs[i] := by simp [hi]
    have hy : us.toArray[i]? = some (us[i]'(by omega)) := by simp [show i < us.length by omega]
    have L1 := isList_mono st.le hl1
    have L2 := isList_mono st.le hl2
    have nN := get_size s.heap
    obtain ⟨c, hS⟩ := st.acl
    obtain ⟨a1, a2, a3, e1⟩ := st.same
    obtain ⟨ta, tb, hTO⟩ := st.tto
    have it1N : s.heap.objs.size ≠ i1 := fun e => by obtain ⟨o, ho, _⟩ := st.it1; exact nomatch (e ▸ nN).symm.trans ho
    have it2N : s.heap.objs.size ≠ i2 := fun e => by obtain ⟨o, ho, _⟩ := st.it2; exact nomatch (e ▸ nN).symm.trans ho
    have SN : s.heap.objs.size ≠ S := fun e => nomatch (e ▸ nN).symm.trans hS
    have TON : s.heap.objs.size ≠ TO := fun e => nomatch (e ▸ nN).symm.trans hTO
    have hbN : hb.get? s.heap.objs.size = none := none_of fun o e => nomatch nN.symm.trans (st.le _ _ e)
    have next : ∀ h1 (T : Nat) fl', IsZipF h1 z TI TO (rawInt (T : Nat)) fl' → (∃ o, h1.get? T = some o) → T ≠ S → T ≠ z → T ≠ i1 → T ≠ i2 → (∃ a b, IsPair h1 TO a b) → h1.IsListIter i1 l1 (i + 1) → h1.IsListIter i2 l2 (i + 1) → IsPair h1 s.heap.objs.size vs[i] (us[i]'(by omega)) → s.heap.objs.size ≠ z →
        (∀ c o, c ≠ z → c ≠ TO → c ≠ i1 → c ≠ i2 → s.heap.get? c = some o → h1.get? c = some o) → Q (some (.ref s.heap.objs.size)) { s with heap := h1 } := fun h1 T fl' b1 b2 b3 t1 t2 t3 t4 b4 b5 b6 b7 b9 => by
      refine hq _ _ ⟨c, b9 _ _ zS.symm TOS.symm iS1.symm iS2.symm hS⟩ fun h' sb hS' => ?_
      have k2 : ∀ {b o}, b ≠ S → h1.get? b = some o → h'.get? b = some o := fun {b o} nb e => (sb.2 b nb).trans e
      refine ⟨fun b o e => ?_, ⟨h', a2, a3, by rw [e1]⟩, .inr ⟨Nat.succ_pos i, T, fl', k2 zS b1, let ⟨o, ho⟩ := b2; ⟨o, k2 b3 ho⟩, b3, t1, t2, t3⟩, let ⟨a, b, q⟩ := t4; ⟨a, b, k2 TOS q⟩, k2 TIS (b9 _ _ D.TIz D.TITO D.TIi1 D.TIi2 st.tti), isListIter_keep b4 fun o e => k2 iS1 e, isListIter_keep b5 fun o e => k2 iS2 e, hS', fun j v hj => ?_⟩
      · exact k2 (fun q => nomatch (q ▸ nS).symm.trans e) (b9 b o (fun q => nomatch (q ▸ nz).symm.trans e) (fun q => nomatch (q ▸ nTO).symm.trans e) (fun q => nomatch (q ▸ n1).symm.trans e) (fun q => nomatch (q ▸ n2).symm.trans e) (st.le b o e))
      · rw [List.getElem?_append] at hj
        split at hj
        · obtain ⟨x, y, c1, c2, T', d1, d2, d3, d4, d5, d6, d7, d8⟩ := st.items j v hj
          exact ⟨x, y, c1, c2, T', d1, k2 d8 (b9 _ _ d4 d5 d6 d7 d2), d3, d4, d5, d6, d7, d8⟩
        · rename_i hge
          have : j = i := by
            rw [List.getElem?_eq_some_iff] at hj
            obtain ⟨q, _⟩ := hj
            simp at q; omega
          subst this
          rw [show j - acc.length = 0 from by omega] at hj
          simp at hj
          subst hj
          exact ⟨vs[j], us[j]'(by omega), by simp [hi], by simp [show j < us.length by omega], _, rfl, k2 SN b6, hbN, b7, TON, it1N, it2N, SN⟩
    rcases st.zz with ⟨rfl, hz⟩ | ⟨hi0, T, fl, hz, hT, hTS, t1, t2, t3⟩
    · have zN : s.heap.objs.size ≠ z := fun e => nomatch (e ▸ nN).symm.trans hz
      refine wpAny_pyNext_zip_item D hz st.tti hTO st.it1 st.it2 L1 L2 hx hy fun h1 b1 b2 b3 b4 b5 b6 b7 => ?_
      exact next h1 s.heap.objs.size false b1 ⟨_, b5⟩ SN zN it1N it2N ⟨_, _, b2⟩ b3 b4 b5 zN b7
    · have zN : s.heap.objs.size ≠ z := fun e => nomatch (e ▸ nN).symm.trans hz
      refine zip_out_item hz hT st.tti st.it1 st.it2 L1 L2 hx hy D.i1z D.i2z D.i12 D.TIz D.l1z D.l2z D.l2i1 fun h1 b1 b3 b4 b5 b7 => ?_
      exact next h1 T true b1 (let ⟨o, ho⟩ := hT; ⟨o, b7 _ _ t1 t2 t3 ho⟩) hTS t1 t2 t3 ⟨_, _, b7 _ _ D.TOz D.TOi1 D.TOi2 hTO⟩ b3 b4 b5 zN fun c o c1 c2 c3 c4 e => b7 c o c1 c3 c4 e
  done := fun {acc s Q E} st hl hq => by
    obtain ⟨c, hS⟩ := st.acl
    obtain ⟨a1, a2, a3, e1⟩ := st.same
    have hx : vs.toArray[vs.length]? = none := by simp
    rcases st.zz with ⟨h0, hz⟩ | ⟨hi0, T, fl, hz, hT, hTS, t1, t2, t3⟩
    · omega
    · refine zip_out_end hh hz hT st.tti st.it1 (isList_mono st.le hl1) hx D.i1z D.l1z fun h1 b7 => hq _ ⟨fun b o e => b7 b o (fun q => nomatch (q ▸ nz).symm.trans e) (fun q => nomatch (q ▸ n1).symm.trans e) (st.le b o e), ⟨h1, a2, a3, by rw [e1]⟩, ⟨c, b7 _ _ zS.symm iS1.symm hS⟩, fun j v hj => ?_⟩
      obtain ⟨x, y, c1, c2, T', d1, d2, d3, d4, d5, d6, d7, d8⟩ := st.items j v hj
      exact ⟨x, y, c1, c2, T', d1, b7 _ _ d4 d6 d2, d3, d4, d5, d6, d7, d8⟩

/-- R and all that is new -/
noncomputable def addNew (R hb h : Heap) : Heap := only h fun b => (R.get? b).isSome || (hb.get? b).isNone
theorem addNew_get (lR : Le R h') {hb : Heap} {b : Addr} {o : Obj} : (addNew R hb h').get? b = some o ↔ R.get? b = some o ∨ (hb.get? b = none ∧ h'.get? b = some o) := by
  unfold addNew
  rw [only_some]
  simp only [Bool.or_eq_true]
  constructor
  · rintro ⟨q | q, e⟩
    · cases z : R.get? b with
      | none => rw [z] at q; cases q
      | some o' => have := lR b o' z; rw [e] at this; cases this; exact .inl rfl
    · exact .inr ⟨by simpa using q, e⟩
  · rintro (q | ⟨q, e⟩)
    · exact ⟨.inl (by rw [q]; rfl), lR b o q⟩
    · exact ⟨.inr (by rw [q]; rfl), e⟩
theorem Mv.addNew (c : Cx w k A R s) {t : Nat} {d : Drawn} (l : Le s.heap h') : Mv A R (addNew R s.heap h') s { s with heap := h', toks := t, drawn := d } where
  le := fun b o e => (addNew_get (c.ext.trans l)).mpr (.inl e)
  new := fun b o e => ((addNew_get (c.ext.trans l)).mp e).imp id fun q => q.1
  pres := .of_le l
  ext := only_le _ _
  same := ⟨_, _, _, rfl⟩
noncomputable def zipD : List D → List D → List D
  | a :: as, b :: bs => .tup [a, b] :: zipD as bs
  | _, _ => []
theorem repL_of {w : World} {R : Heap} {ds : List D} : ∀ {vs : List Value}, vs.length = ds.length → (∀ (j : Nat) (d : D) (v : Value), ds[j]? = some d → vs[j]? = some v → Rep w R d v) → RepL w R ds vs := by
  induction ds with
  | nil =>
    intro vs hl h
    cases vs with
    | nil => exact .nil
    | cons v vs => exact absurd hl (Nat.succ_ne_zero _)
  | cons d ds ih =>
    intro vs hl h
    cases vs with
    | nil => exact absurd hl.symm (Nat.succ_ne_zero _)
    | cons v vs => exact .cons (h 0 d v rfl rfl) (ih (Nat.succ.inj hl) fun j d' v' a b => h (j + 1) d' v' a b)
theorem zipD_get : ∀ {as bs : List D} {j : Nat} {d : D}, (zipD as bs)[j]? = some d → ∃ a b, as[j]? = some a ∧ bs[j]? = some b ∧ d = .tup [a, b]
  | a :: as, b :: bs, 0, d, h => by simp [zipD] at h; exact ⟨a, b, rfl, rfl, h.symm⟩
  | a :: as, b :: bs, j + 1, d, h => by simpa using zipD_get (as := as) (bs := bs) (j := j) (by simpa [zipD] using h)
  | [], _, j, d, h => by simp [zipD] at h
  | a :: as, [], j, d, h => by simp [zipD] at h
theorem zipD_length : ∀ {as bs : List D}, as.length = bs.length → (zipD as bs).length = as.length
  | [], [], _ => rfl
  | a :: as, b :: bs, h => by simpa [zipD] using zipD_length (as := as) (bs := bs) (by simpa using h)

theorem list_zip {ds es : List D} {a b : Addr} (c : Cx w k A R s) (h1 : Own w s.heap R (.list ds) a) (h2 : Own w s.heap R (.list es) b) (hl : ds.length = es.length) (hpos : 0 < ds.length) (hz : ds.length ≤ sizeLine) :
    wpAny (MM w) A (call (.type "zip") [.ref a, .ref b]) (fun zv s₁ => wpAny (MM w) A (call (.type "list") [zv]) (fun v' s' => ∃ R', Mv A R R' s s' ∧ Rep w R' (.list (zipD ds es)) v') (fun _ _ => False) s₁) (fun _ _ => False) s := by
  cases h1 with
  | @list _ vs n1 _ ho1 r1 =>
    cases h2 with
    | @list _ us n2 _ ho2 r2 =>
      have L1 : s.heap.IsList a vs.toArray := ⟨_, ho1, rfl, n1, rfl⟩
      have L2 : s.heap.IsList b us.toArray := ⟨_, ho2, rfl, n2, rfl⟩
      have nS := get_size s.heap
      have gt : ∀ {x : Addr} {o : Obj} {m : Nat}, s.heap.get? x = some o → x ≠ s.heap.objs.size + m := fun {x o m} e q => absurd (Heap.lt_size e) (by rw [q]; exact Nat.not_lt.mpr (Nat.le_add_right _ _))
      have nn : ∀ m : Nat, s.heap.get? (s.heap.objs.size + m) = none := fun m => none_of fun o e => gt e rfl
      have ad : ∀ {m m' : Nat}, m ≠ m' → s.heap.objs.size + m ≠ s.heap.objs.size + m' := fun h q => h (Nat.add_left_cancel q)
      refine call_zip_2 L1 L2 fun h' hz' hTI hTO hi1 hi2 hsz kp => ?_
      have D : ZipApart (s.heap.objs.size + 4) (s.heap.objs.size + 2) (s.heap.objs.size + 3) s.heap.objs.size (s.heap.objs.size + 1) a b :=
        ⟨ad (by decide), ad (by decide), ad (m := 0) (by decide), ad (by decide), ad (by decide), ad (m' := 0) (by decide), ad (by decide), ad (m' := 0) (by decide), ad (by decide), ad (m := 0) (by decide), gt ho1, gt ho1, gt (m := 0) ho1, gt ho1, gt ho2, gt ho2, gt (m := 0) ho2, gt ho2⟩
      have e1 := r1.length
      have e2 := r2.length
      have nS5 : s.heap.get? h'.objs.size = none := by rw [hsz]; exact nn 5
      have Dr := zip_drains (w := w) (A := A.in1.in1) (s₀ := s) (hb := s.heap) (S := h'.objs.size) (vs := vs) (us := us) c.room.h D L1 L2 (by omega) (nn 4) (nn 3) (nn 0) (nn 1) nS5 (by rw [hsz]; exact ad (by decide)) (by rw [hsz]; exact ad (by decide)) (by rw [hsz]; exact ad (by decide)) (by rw [hsz]; exact ad (m := 0) (by decide)) (by rw [hsz]; exact ad (by decide)) (by omega)
      refine list_drain (s := { s with heap := h' }) (T := "zip") Dr (by omega) (fun l => ⟨_, l _ _ hz', rfl⟩) (by decide) (by decide) zip_nolen zip_nohint (fun l q => wpAny_pyIter_zip (l _ _ hz') q) (fun h2 l hS => ?_) fun acc s' hl2 hF => ?_
      · exact ⟨fun b o e => l _ _ (kp _ _ e), ⟨h2, s.toks, s.drawn, rfl⟩, .inl ⟨rfl, l _ _ hz'⟩, ⟨_, _, l _ _ hTO⟩, l _ _ hTI, isListIter_keep hi1 fun o e => l _ _ e, isListIter_keep hi2 fun o e => l _ _ e, hS, fun j v hj => by simp at hj⟩
      · obtain ⟨lF, ⟨h3, t3, d3, rfl⟩, ⟨c3, hS⟩, items⟩ := hF
        have lR := c.ext.trans lF
        refine ⟨_, Mv.addNew (t := t3) (d := d3) c lF, .list ⟨_, (addNew_get lR).mpr (.inr ⟨nS5, hS⟩), rfl, c3, rfl⟩ (repL_of (by rw [zipD_length hl]; omega) fun j d v hd hv => ?_)⟩
        obtain ⟨da, db, g1, g2, rfl⟩ := zipD_get hd
        obtain ⟨x, y, p1, p2, T, rfl, p3, p4, _⟩ := items j v hv
        have leR : Le R (addNew R s.heap h3) := fun b o e => (addNew_get lR).mpr (.inl e)
        obtain ⟨x', q1, q2⟩ := r1.get g1
        obtain ⟨y', q3, q4⟩ := r2.get g2
        rw [p1] at q1; cases q1
        rw [p2] at q3; cases q3
        exact .tup (vs := [x, y]) ⟨_, (addNew_get lR).mpr (.inr ⟨p4, p3⟩), rfl, 0, rfl⟩ (.cons (q2.mono leR) (.cons (q4.mono leR) .nil))

/-- list(zip(name, name)) of own lists -/
theorem ev_list_zip {x1 x2 x y : Str} {p1 p2 p3 p4 pos pos2 : Pos} {ds es : List D} (qx : σ.lookup x = some (.own (.list ds))) (qy : σ.lookup y = some (.own (.list es))) (hl : ds.length = es.length) (hpos : 0 < ds.length) (hz : ds.length ≤ sizeLine)
    (h1 : Ev w k sc σ (.Name x1 p1) (.val (.type "list")) σ) (h2 : Ev w k sc σ (.Name x2 p2) (.val (.type "zip")) σ) (hx : sc.names.lookup x = some .local) (hy : sc.names.lookup y = some .local)
    (hk : sc.kind = .function := by rfl) (hn : Nm x ∧ Nm y := by decide)
    (hs1 : ∀ env, backTo pos2 (starEach [.Name x p3, .Name y p4] env) = [(false, eval (.Name x p3) env), (false, eval (.Name y p4) env)] := by intro _; rfl)
    (hs2 : ∀ env, backTo pos (starEach [.Call (.Name x2 p2) [.Name x p3, .Name y p4] [] pos2] env) = [(false, eval (.Call (.Name x2 p2) [.Name x p3, .Name y p4] [] pos2) env)] := by intro _; rfl) :
    Ev w k sc σ (.Call (.Name x1 p1) [.Call (.Name x2 p2) [.Name x p3, .Name y p4] [] pos2] [] pos) (.list (zipD ds es)) σ := fun A F h₀ R s rm S => by
  refine Call_Name rfl (wp_then (h1 A F h₀ R s rm S) fun v R₁ s₁ st₁ S₁ q₁ => ?_)
  cases q₁
  rw [hs2]
  refine PyProof.Rows.callWith_type rfl (Calls.evalArgs_plain (Calls.spliced_cons ?_))
  refine Call_Name rfl (wp_then (h2 A F h₀ R₁ s₁ rm S₁) fun v R₂ s₂ st₂ S₂ q₂ => ?_)
  cases q₂
  rw [hs1]
  obtain ⟨m, V⟩ := S₂.vars
  obtain ⟨a, hm, oa⟩ := S₂.ownAt V.ns qx hx
  obtain ⟨b, hm', ob⟩ := S₂.ownAt V.ns qy hy
  refine PyProof.Rows.callWith_type rfl (Calls.evalArgs_plain (Calls.spliced_cons (wpAny_Name (wpAny_loadName_local hk hx V.ns hm (Calls.spliced_cons (wpAny_Name (wpAny_loadName_local hk hy V.ns hm' (Calls.spliced_nil ?_)) hn.2.1))) hn.1.1)))
  refine wpAny_mono (list_zip (S₂.cx rm) oa ob hl hpos hz) (fun mv s₅ h => Calls.spliced_nil (wpAny_mono h (fun v' s' ⟨R', mv', r⟩ => ?_) fun _ _ e => e.elim)) fun _ _ e => e.elim
  exact ⟨R', (st₁.trans st₂).trans (S₂.step mv'), S₂.mv mv', r⟩
end
end Mine
end

noncomputable section
open PySem PySem.W PyProof.Rows PySem.SeqAt
namespace Mine
/-! commonpath, where the first path is a head of all -/
noncomputable def okC (c : Str) : Bool := decide (c ≠ "") && decide (c ≠ ".")
noncomputable def comps (p : Str) : List Str := (Txt.split p "/").filter okC
theorem ltL_prefix : ∀ {a b : List Str}, a <+: b → ltL b a = false
  | [], b, _ => by cases b <;> simp [ltL]
  | x :: a, b, h => by
    obtain ⟨t, rfl⟩ := h
    simp only [List.cons_append, ltL, if_true]
    exact ltL_prefix (List.prefix_append a t)
theorem argBest_le (bt : Nat → Nat → Bool) : ∀ n, argBest bt n ≤ n
  | 0 => Nat.le_refl _
  | n + 1 => by
    unfold argBest
    split
    · exact Nat.le_refl _
    · exact Nat.le_succ_of_le (argBest_le bt n)
theorem argBest_zero {bt : Nat → Nat → Bool} : ∀ n, (∀ i, i ≤ n → bt i 0 = false) → argBest bt n = 0
  | 0, _ => rfl
  | n + 1, h => by
    unfold argBest
    rw [argBest_zero n fun i hi => h i (by omega), h (n + 1) (Nat.le_refl _)]
    rfl
structure CommonOk (p0 : Str) (rest : List Str) : Prop where
  pre : ∀ p ∈ p0 :: rest, comps p0 <+: comps p
  sw : ∀ p ∈ p0 :: rest, Txt.startswith p "/" = true
  len : ∀ p ∈ p0 :: rest, p.length ≤ 1000
  n : rest.length ≤ 1000
noncomputable def pyCommon (p0 : Str) : Str := Str.ofString "/" ++ Txt.join "/" (comps p0)
section
theorem c_common (w : World) (p0 : Str) (rest : List Str) (ok : CommonOk p0 rest) (hj : JoinOk "/" (comps p0) = true) (hjl : (Txt.join "/" (comps p0)).length ≤ 100000) : Contract w 6 (.ref 127) [.list ((p0 :: rest).map .str)] (.str (pyCommon p0)) := by
  obtain ⟨fd, X, hb⟩ := fn_commonpath w
  have z : ∀ n, n ≤ 10000000 → n ≤ sizeLine := fun n h => by simp only [sizeLine]; omega
  generalize hps : p0 :: rest = ps
  have hps0 : 0 < ps.length := by rw [← hps]; simp
  have hpsl : ps.length ≤ 1001 := by rw [← hps]; simp; exact ok.n
  have hok := ok
  have len : ∀ p ∈ ps, p.length ≤ 1000 := fun p h => ok.len p (hps ▸ h)
  have sw : ∀ p ∈ ps, Txt.startswith p "/" = true := fun p h => ok.sw p (hps ▸ h)
  have pre : ∀ p ∈ ps, comps p0 <+: comps p := fun p h => ok.pre p (hps ▸ h)
  have spl : ∀ p ∈ ps, (Txt.split p "/").length ≤ 1001 ∧ ∀ x ∈ Txt.split p "/", x.length ≤ 1000 := fun p h => by
    have hw := split_weight p "/" (by decide)
    have := len p h
    exact ⟨by omega, fun x hx => Nat.le_trans (part_short hx) this⟩
  have hsz : ∀ p ∈ ps, (Builtin.Str.partsBetween p (Builtin.Str.occurrences p "/" 0 p.length (p.length + 1)) (Str.ofString "/").length).length ≤ sizeLine := fun p h => by
    rw [len_partsBetween]
    have := StrLaws.occ_length_le p "/" 0 p.length (p.length + 1)
    have := len p h
    exact z _ (by omega)
  refine contract_def (k := 5) X [Str.ofString "paths"] hb rfl (by decide) (by rfl) ⟨rfl, rfl, rfl⟩ ?_
  refine exs_cons (ex_assign (ev_tuple_map (j := 1) (xs := ps) (by decide) (fun x _ => c_fspath w x) (by decide) (z _ (by omega)) nm_tuple nm_map nm_fspath (ev_name (by rfl))) (asg_local (by rfl))) ?_
  have hne : (ps.map D.str).isEmpty = false := by rw [← hps]; rfl
  refine exs_cons (ex_if (b := false) (σ' := [("paths", .fz (.tup (ps.map .str)))]) ((tr_not (tr_plain (ev_name (by rfl)) (truth_tup (z _ (by simp; omega))))).to (by rw [hne]; rfl)) (fun h => by cases h) (fun _ => exs_to ⟨by rfl, trivial⟩)) ?_
  have h0 : (ps.map D.str)[(0 : Int).toNat]? = some (.str p0) := by rw [← hps]; rfl
  refine exs_cons (ex_if (b := false) (σ' := [("paths", .fz (.tup (ps.map .str))), ("sep", .fz (.str "/")), ("curdir", .fz (.str "."))]) (tr_plain (ev_call nm_isinstance (callOk_builtin _) (evs_cons (ev_item (ev_name (by rfl)) ev_int (item_tup (by decide) h0 (z _ (by simp; omega)))) (evs_cons nm_bytes evs_nil)) op_isinstance_bytes) truth_bool)
    (fun h => by cases h) (fun _ => exs_cons (ex_assign ev_str (asg_cell (by rfl))) (exs_cons (ex_assign ev_str (asg_cell (by rfl))) (exs_to ⟨by rfl, by rfl, by rfl, trivial⟩)))) ?_
  refine exs_stop (ex_try_ret ?_) (by intro h; cases h)
  refine exs_cons (ex_assign_comp' (out := ps.map fun p => .list ((Txt.split p "/").map .str)) [("sep", .fz (.str "/"))] (iters_tup (l := ps.map .str) (ev_name (by rfl))).r (InnerL.inner ⟨⟨_, rfl⟩, by rfl, by rfl, by rfl, trivial⟩)
    (comp_map' (fun i => .list ((Txt.split (ps.getD i "") "/").map .str)) ?_ (by rfl) (z _ (by rw [List.length_map]; omega)) (by rfl) fun i hi => ?_) (by rfl)) ?_
  · rw [List.length_map]
    exact map_range_getD (fun p : Str => D.list ((Txt.split p "/").map .str)) (Str.ofString "") ps
  · rw [List.length_map] at hi
    have hm := getD_mem (d := Str.ofString "") hi
    exact ⟨_, ev_method ((ev_name (by rfl)).to (getD_map_str ps i hi)) meth_split (callOk_builtin _) (evs_cons (ev_name (by rfl)) evs_nil) (op_split (by decide) (z _ (by have := len _ hm; omega)) (hsz _ hm)), put_ext (by rfl)⟩
  refine exs_freeze "split_paths" (by rfl) ?_
  refine exs_cons (ex_try (orelse := []) (exs_cons (ex_assign_set (n := (ps.map D.str).length) (ds := fun i => (ps.map D.str).getD i .none) [("sep", .fz (.str "/"))] (iters_tup (l := ps.map .str) (ev_name (by rfl))).r (InnerL.inner ⟨⟨_, rfl⟩, by rfl, by rfl, by rfl, trivial⟩)
    (comp_allTrue (by simpa using hps0) (by rfl) (by rfl) fun i hi => ?_) (by rfl)) exs_keep)) ?_
  · rw [List.length_map] at hi
    have hm := getD_mem (d := Str.ofString "") hi
    exact ⟨_, (ev_method ((ev_name (by rfl)).to (getD_map_str ps i hi)) meth_startswith (callOk_builtin _) (evs_cons (ev_name (by rfl)) evs_nil) op_startswith).to (by rw [sw _ hm]), put_ext (by rfl)⟩
  let sps : List D := ps.map fun p => .list ((Txt.split p "/").map .str)
  refine exs_cons (ex_assign_comp' (out := (ps.map comps).map TSL.enc) [("curdir", .fz (.str "."))] (iters_list (l := sps) (ev_name (by rfl))).r (InnerL.inner ⟨⟨_, rfl⟩, by rfl, by rfl, by rfl, trivial⟩)
    (comp_map' (fun i => TSL.enc (comps (ps.getD i ""))) ?_ (by rfl) (z _ (by show (ps.map _).length ≤ _; rw [List.length_map]; omega)) (by rfl) fun i hi => ?_) (by rfl)) ?_
  · show (List.range (ps.map _).length).map _ = _
    rw [List.length_map, List.map_map]
    exact map_range_getD (fun p : Str => TSL.enc (comps p)) (Str.ofString "") ps
  · have hi : i < ps.length := by
      have : i < (ps.map fun p => D.list ((Txt.split p "/").map .str)).length := hi
      rwa [List.length_map] at this
    have hm := getD_mem (d := Str.ofString "") hi
    have hg : sps.getD i .none = .list ((Txt.split (ps.getD i "") "/").map .str) := by
      show (ps.map fun p => D.list ((Txt.split p "/").map .str)).getD i .none = _
      simp [List.getD, hi]
    rw [hg]
    obtain ⟨s1, s2⟩ := spl _ hm
    have hcomp : comps (ps.getD i "") = (Txt.split (ps.getD i "") "/").filter okC := rfl
    rw [hcomp]
    generalize Txt.split (ps.getD i "") "/" = cs at s1 s2
    refine ⟨_, ev_of_N (evN_comp' (out := (cs.filter okC).map .str) [("curdir", .fz (.str "."))] (iters_list (l := cs.map .str) (ev_name (by rfl))).r (InnerL.inner ⟨⟨_, rfl⟩, by rfl, by rfl, by rfl, trivial⟩)
      (comp_one' (fun j => okC (cs.getD j "")) (fun j => .str (cs.getD j "")) ?_ (by rfl) (z _ (by rw [List.length_map]; omega)) (by rfl) fun j hj => ?_)), put_ext (by rfl)⟩
    · rw [List.length_map]
      exact filter_range_getD okC D.str (Str.ofString "") cs
    · rw [List.length_map] at hj
      have hcm := s2 _ (getD_mem (d := Str.ofString "") hj)
      rw [getD_map_str cs j hj]
      generalize cs.getD j "" = c at hcm
      refine ⟨_, tests_one (tr_and (b := decide (c ≠ "")) ((tr_plain (ev_name (by rfl)) (truth_str (z _ (by omega)))).to ?_) (fun h1 => tr_and (b := decide (c ≠ ".")) ((tr_compare (ev_name (by rfl)) (ev_name (by rfl)) op_ne_str).to ?_) (fun h2 => tr_and_nil.to ?_) (fun h2 => ⟨?_, rfl⟩)) (fun h1 => ⟨?_, rfl⟩)), fun _ => ⟨_, ev_name (by rfl), put_ext (by rfl)⟩, fun _ => put_ext (by rfl)⟩
      · by_cases e : c = ""
        · rw [e]; rfl
        · have : c.length ≠ 0 := fun q => e (str_len0.mp q)
          have h1 : decide (c ≠ "") = true := decide_eq_true e
          rw [h1]
          show ((c.length : Int) != 0) = true
          simp; omega
      · rw [Bool.eq_iff_iff]; simp
      · unfold okC; rw [h1, h2]; rfl
      · unfold okC; rw [h1, h2]; rfl
      · unfold okC; rw [h1]; rfl
  refine exs_freeze "split_paths" (by rfl) ?_
  have hls0 : 0 < (ps.map comps).length := by simpa using hps0
  have hhead : (ps.map comps).getD 0 [] = comps p0 := by rw [← hps]; rfl
  have hcp : ∀ i, i < ps.length → comps p0 <+: (ps.map comps).getD i [] := fun i hi => by
    have : (ps.map comps).getD i [] = comps ps[i] := by simp [List.getD, hi]
    rw [this]
    exact pre _ (List.getElem_mem hi)
  have hmin : (ps.map comps).getD (argBest (fun i j => ltL ((ps.map comps).getD i []) ((ps.map comps).getD j [])) ((ps.map comps).length - 1)) [] = comps p0 := by
    rw [argBest_zero _ (fun i hi => ?_), hhead]
    rw [hhead]
    rw [List.length_map] at hi
    exact ltL_prefix (hcp i (by omega))
  refine exs_cons (ex_assign (Ev.to (ev_call nm_min (callOk_builtin _) (evs_cons (ev_name (by rfl)) evs_nil) (op_minL hls0)) (by rw [hmin])) (asg_local (by rfl))) ?_
  have hbest := argBest_le (fun i j => gtL ((ps.map comps).getD i []) ((ps.map comps).getD j [])) ((ps.map comps).length - 1)
  have hc2 : comps p0 <+: (ps.map comps).getD (argBest (fun i j => gtL ((ps.map comps).getD i []) ((ps.map comps).getD j [])) ((ps.map comps).length - 1)) [] := hcp _ (by rw [List.length_map] at hbest ⊢; omega)
  refine exs_cons (ex_assign (ev_call nm_max (callOk_builtin _) (evs_cons (ev_name (by rfl)) evs_nil) (op_maxL hls0)) (asg_local (by rfl))) ?_
  have hc2l : ((ps.map comps).getD (argBest (fun i j => gtL ((ps.map comps).getD i []) ((ps.map comps).getD j [])) ((ps.map comps).length - 1)) []).length ≤ 1001 := by
    have hb : argBest (fun i j => gtL ((ps.map comps).getD i []) ((ps.map comps).getD j [])) ((ps.map comps).length - 1) < (ps.map comps).length := by omega
    have := getD_mem (d := ([] : List Str)) hb
    obtain ⟨p, hp, e⟩ := List.mem_map.mp this
    rw [← e]
    exact Nat.le_trans (List.length_filter_le _ _) (spl p hp).1
  generalize (ps.map comps).getD (argBest (fun i j => gtL ((ps.map comps).getD i []) ((ps.map comps).getD j [])) ((ps.map comps).length - 1)) [] = c2 at hc2 hc2l
  unfold pyCommon
  generalize comps p0 = c0 at hc2 hj hjl
  refine exs_cons (ex_assign (ev_name (by rfl)) (asg_local (by rfl))) ?_
  refine exs_cons (ex_for' (σe := [("sep", .fz (.str "/")), ("isabs", .fz (.bool true)), ("s2", .fz (.list (c2.map .str))), ("common", .fz (.list (c0.map .str)))])
    (fun _ => [("sep", .fz (.str "/")), ("isabs", .fz (.bool true)), ("s2", .fz (.list (c2.map .str))), ("common", .fz (.list (c0.map .str)))])
    (iters_enum (l := c0.map .str) nm_enumerate (ev_name (by rfl))) ⟨by rfl, by rfl, by rfl, by rfl, trivial⟩ (by rfl) (fun i hi => ?_)) ?_
  · rw [List.length_map] at hi
    rw [getD_map_str c0 i hi]
    have hg : c2[i]? = some (c0.getD i "") := by
      obtain ⟨t, rfl⟩ := hc2
      rw [List.getElem?_append_left hi]
      simp [List.getD, hi]
    refine ⟨_, .next, asg_tuple (Asgs.cons (asg_local (by rfl)) (Asgs.cons (asg_local (by rfl)) (Asgs.nil _))), .inl rfl, ?_⟩
    refine exs_cons (ex_if (b := false) ((tr_compare (ev_name (by rfl)) (ev_item (ev_name (by rfl)) (ev_name (by rfl)) (item_list (ds := c2.map .str) (by omega) (getE c2 hg) (z _ (by rw [List.length_map]; omega)))) op_ne_str).to (by simp)) (fun h => by cases h) (fun _ => exs_keep)) (exs_to ⟨by rfl, by rfl, by rfl, by rfl, trivial⟩)
  refine exs_cons (ex_assign (ev_ifexp (c := true) (tr_plain (ev_name (by rfl)) truth_bool) (fun _ => ev_name (by rfl)) (fun h => by cases h)) (asg_local (by rfl))) ?_
  have e1 : (Str.ofString "/").length = 1 := rfl
  exact exs_stop (ex_return (ev_binop (ev_name (by rfl)) (ev_method (ev_name (by rfl)) meth_join (callOk_builtin _) (evs_cons (ev_name (by rfl)) evs_nil) (op_join hj)) (op_add_str (z _ (by rw [e1]; omega))))) (by intro h; cases h)
end
end Mine
end

noncomputable section
open PySem PySem.W PyProof.Rows PySem.SeqAt
namespace Mine
section
variable {w : World} {k : Nat} {A : Around} {sc : Scope} {F : FrS} {h₀ R R' h h' : Heap} {σ σ' σ₁ σ₂ σ₃ : St} {s s' : Shared}
theorem iterAt_own {target : PySem.Expr} {I a : Addr} {l : List D} {vs : List Value} (hh : A.handled = none) (ne : a ≠ I) (r : RepL w R l vs) :
    IterAt w A target R I [I] [a] l.length (fun i => l.getD i .none) (fun i h => h.IsListIter I a i ∧ h.IsList a vs.toArray) (fun i v h => (h.IsListIter I a (i + 1) ∧ h.IsList a vs.toArray) ∧ vs.toArray[i]? = some v) := by
  have W := Walks.list (prog := PG) (w := w) hh I a ne vs.toArray
  rw [List.size_toArray, r.length] at W
  refine IterAt.of_walks W (fun b hb => ?_) (fun i v e => getD_of r e) (fun i v s Q E st h => go_listIter st.1 h) (fun i h st => listIter_live st)
  rcases List.mem_cons.mp hb with e | hb
  · exact .inl e
  · exact .inr (.inr hb)
/-- over an own list, while nobody touches it -/
theorem itersR_own {x : Str} {p : Pos} {target : PySem.Expr} {ds : List D} (q : σ.lookup x = some (.own (.list ds))) (hx : sc.names.lookup x = some .local) (hk : sc.kind = .function := by rfl) (hdb : (x == ("__debug__" : Str)) = false := by decide) :
    ItersR w k sc σ target (.Name x p) ds.length (fun i => ds.getD i .none) σ := fun A F h₀ R s rm S => by
  obtain ⟨m, V⟩ := S.vars
  obtain ⟨a, hm, o⟩ := S.ownAt V.ns q hx
  have off := V.off x _ a q (.loc hx hm)
  refine wpAny_Name (wpAny_loadName_local hk hx V.ns hm ?_) hdb
  cases o with
  | @list _ vs n _ ho r =>
    have nn := get_size s.heap
    have hl : s.heap.IsList a vs.toArray := ⟨_, ho, rfl, n, rfl⟩
    have ne : a ≠ s.heap.objs.size := fun e => nomatch (e ▸ nn).symm.trans ho
    have l := Le.push s.heap { cls := .type "list_iterator", data := .fields #[.ref a, .int 0 0] }
    refine wpAny_pyIter_list hl ⟨R, s.heap.objs.size, [s.heap.objs.size], [a], _, _, rfl, .heap (t := s.toks), S.keep (t := s.toks) (d := s.drawn) l, iterAt_own rm.h ne r, ⟨⟨_, Heap.get?_push_size _ rfl, rfl, rfl⟩, isList_mono l hl⟩, offW_new S nn, dynW_new S l nn ⟨_, Heap.get?_push_size _ rfl⟩, fun b hb => ?_⟩
    rw [List.mem_singleton] at hb
    subst hb
    exact ⟨off.p, fun h => ne (List.mem_singleton.mp h), _, l _ _ ho⟩
end
end Mine
end

noncomputable section
open PySem PySem.W PyProof.Rows PySem.SeqAt
namespace Mine
/-! what _law_found finds -/
noncomputable def keysOf (known : List (Str × Str)) (t : Str) : List Str := (spansOf t known).map (·.1)
noncomputable def spanOf (known : List (Str × Str)) (t path : Str) : Int × Int := ((spansOf t known).lookup path).getD (0, 0)
noncomputable def splice (known : List (Str × Str)) (here text path : Str) : Str :=
  Txt.slice here none (some (spanOf known here path).1) ++ Txt.slice text (some (spanOf known text path).1) (some (spanOf known text path).2) ++ Txt.slice here (some (spanOf known here path).2) none
noncomputable def addNew1 (found : List Str) (t : Str) : List Str := if t ∈ found then found else found ++ [t]
noncomputable def firsts (texts : List Str) : List Str := texts.foldl addNew1 []
noncomputable def pathStep (known : List (Str × Str)) (here text : Str) (found : List Str) (path : Str) : List Str := if path ∈ keysOf known here then addNew1 found (splice known here text path) else found
noncomputable def giverStep (known : List (Str × Str)) (here : Str) (found : List Str) (text : Str) : List Str := (keysOf known text).foldl (pathStep known here text) found
noncomputable def hereStep (known : List (Str × Str)) (givers found : List Str) (here : Str) : List Str := givers.foldl (giverStep known here) found
noncomputable def foundAt (known : List (Str × Str)) (texts : List Str) : Nat → List Str
  | 0 => firsts texts
  | i + 1 => hereStep known (firsts texts) (foundAt known texts i) ((foundAt known texts i).getD i "")
structure StepOk (known : List (Str × Str)) (P : Str → Prop) (here text path fresh : Str) : Prop where
  p : P fresh
  ne : fresh ≠ here → mdiff (sortS (keysOf known here)) (sortS (keysOf known fresh)) ++ mdiff (sortS (keysOf known fresh)) (sortS (keysOf known here)) ≠ []
  out : fresh ≠ here → path ∉ mdiff (sortS (keysOf known here)) (sortS (keysOf known fresh)) ++ mdiff (sortS (keysOf known fresh)) (sortS (keysOf known here))
  com : fresh ≠ here → CommonOk path (mdiff (sortS (keysOf known here)) (sortS (keysOf known fresh)) ++ mdiff (sortS (keysOf known fresh)) (sortS (keysOf known here)))
  self : pyCommon path = path
  join : JoinOk "/" (comps path) = true
  jl : (Txt.join "/" (comps path)).length ≤ 100000
  went : ∀ x ∈ mdiff (sortS (keysOf known here)) (sortS (keysOf known fresh)), x ∉ keysOf known text
  came : ∀ x ∈ mdiff (sortS (keysOf known fresh)) (sortS (keysOf known here)), x ∈ keysOf known text
structure FoundOk (known : List (Str × Str)) (texts : List Str) (P : Str → Prop) : Prop where
  k10 : ∀ p ∈ known, p.2.length ≤ 10
  init : ∀ t ∈ texts, P t
  some : texts ≠ []
  short : ∀ t, P t → t.length ≤ 2000
  keys : ∀ t, P t → (keysOf known t).length < 64
  nodup : ∀ t, P t → (keysOf known t).Nodup
  count : ∀ l : List Str, l.Nodup → (∀ t ∈ l, P t) → l.length < 64
  step : ∀ here text path, P here → text ∈ texts → path ∈ keysOf known here → path ∈ keysOf known text → StepOk known P here text path (splice known here text path)

section
variable {known : List (Str × Str)} {texts : List Str} {P : Str → Prop}
noncomputable def Inv (P : Str → Prop) (f : List Str) : Prop := f.Nodup ∧ ∀ t ∈ f, P t
theorem Inv.add {f : List Str} (h : Inv P f) {t : Str} (ht : P t) : Inv P (addNew1 f t) := by
  unfold addNew1
  split
  · exact h
  · rename_i hn
    refine ⟨?_, fun x hx => ?_⟩
    · rw [List.nodup_append]
      refine ⟨h.1, by simp, fun a ha b hb e => ?_⟩
      rw [List.mem_singleton] at hb
      subst hb; subst e; exact hn ha
    · rcases List.mem_append.mp hx with hx | hx
      · exact h.2 x hx
      · rw [List.mem_singleton] at hx; exact hx ▸ ht
theorem firsts_fold : ∀ (texts f : List Str), (∀ x ∈ f, P x) → f.Nodup → (∀ t ∈ texts, P t) → Inv P (texts.foldl addNew1 f)
  | [], f, h1, h2, _ => ⟨h2, h1⟩
  | t :: texts, f, h1, h2, h3 => by
    have := Inv.add (P := P) (f := f) ⟨h2, h1⟩ (h3 t List.mem_cons_self)
    exact firsts_fold texts _ this.2 this.1 fun t h => h3 t (List.mem_cons_of_mem _ h)
theorem firsts_sub (texts : List Str) : ∀ t ∈ firsts texts, t ∈ texts := (firsts_fold (P := fun t => t ∈ texts) texts [] (by simp) (by simp) (fun t h => h)).2
theorem firsts_inv (ok : FoundOk known texts P) : Inv P (firsts texts) := firsts_fold texts [] (by simp) (by simp) ok.init
theorem pathStep_inv (ok : FoundOk known texts P) {here text path : Str} {f : List Str} (h : Inv P f) (hh : P here) (ht : text ∈ texts) (hp : path ∈ keysOf known text) : Inv P (pathStep known here text f path) := by
  unfold pathStep
  split
  · rename_i hm
    exact h.add (ok.step here text path hh ht hm hp).p
  · exact h
theorem giver_fold (ok : FoundOk known texts P) {here text : Str} (hh : P here) (ht : text ∈ texts) : ∀ (ps : List Str) (f : List Str), (∀ p ∈ ps, p ∈ keysOf known text) → Inv P f → Inv P (ps.foldl (pathStep known here text) f)
  | [], f, _, h => h
  | p :: ps, f, hp, h => giver_fold ok hh ht ps _ (fun q hq => hp q (List.mem_cons_of_mem _ hq)) (pathStep_inv ok h hh ht (hp p List.mem_cons_self))
theorem giverStep_inv (ok : FoundOk known texts P) {here text : Str} {f : List Str} (h : Inv P f) (hh : P here) (ht : text ∈ texts) : Inv P (giverStep known here f text) := giver_fold ok hh ht _ f (fun _ h => h) h
theorem here_fold (ok : FoundOk known texts P) {here : Str} (hh : P here) : ∀ (gs f : List Str), (∀ g ∈ gs, g ∈ texts) → Inv P f → Inv P (gs.foldl (giverStep known here) f)
  | [], f, _, h => h
  | g :: gs, f, hg, h => here_fold ok hh gs _ (fun q hq => hg q (List.mem_cons_of_mem _ hq)) (giverStep_inv ok h hh (hg g List.mem_cons_self))
theorem hereStep_inv (ok : FoundOk known texts P) {here : Str} {f : List Str} (h : Inv P f) (hh : P here) : Inv P (hereStep known (firsts texts) f here) := here_fold ok hh _ f (firsts_sub texts) h
theorem foundAt_inv (ok : FoundOk known texts P) : ∀ i, (∀ j, j < i → j < (foundAt known texts j).length) → Inv P (foundAt known texts i)
  | 0, _ => firsts_inv ok
  | i + 1, h => by
    have ih := foundAt_inv ok i fun j hj => h j (by omega)
    have hi := h i (by omega)
    exact hereStep_inv ok ih (ih.2 _ (getD_mem hi))

theorem lookup_keys {α : Type} {l : List (Str × α)} {k : Str} : (l.lookup k).isSome = decide (k ∈ l.map (·.1)) := by
  induction l with
  | nil => rfl
  | cons p l ih =>
    rw [List.lookup_cons]
    cases hb : k == p.1 with
    | true => rw [beq_iff_eq] at hb; simp [hb]
    | false =>
      have : k ≠ p.1 := by simpa using hb
      dsimp only
      rw [ih]; simp [this]
end
end Mine
end

noncomputable section
open PySem PySem.W PyProof.Rows PySem.SeqAt
namespace Mine
noncomputable def fWhile : List Stmt := subSt (defBody 30) 5
noncomputable def fGiver : List Stmt := subSt fWhile 2
noncomputable def fPath : List Stmt := subSt fGiver 0
noncomputable def bookD (known : List (Str × Str)) (f : List Str) : List D := f.map fun t => spD (spansOf t known)
noncomputable def giverD (known : List (Str × Str)) (gs : List Str) : List D := zipD (gs.map .str) (bookD known gs)
noncomputable def fS0 (known : List (Str × Str)) (gs f : List Str) (i : Nat) : St := [("known", .fz (kvD known)), ("givers", .fz (.list (giverD known gs))), ("seen", .fz (.int i)), ("found", .own (.list (f.map .str))), ("books", .own (.list (bookD known f)))]
noncomputable def fS1 (known : List (Str × Str)) (gs f : List Str) (i : Nat) (here : Str) : St := [("known", .fz (kvD known)), ("givers", .fz (.list (giverD known gs))), ("seen", .fz (.int i)), ("found", .own (.list (f.map .str))), ("books", .own (.list (bookD known f))), ("here", .fz (.str here)), ("mine", .fz (spD (spansOf here known)))]
noncomputable def fS2 (known : List (Str × Str)) (gs f : List Str) (i : Nat) (here text : Str) : St := [("known", .fz (kvD known)), ("givers", .fz (.list (giverD known gs))), ("seen", .fz (.int i)), ("found", .own (.list (f.map .str))), ("books", .own (.list (bookD known f))), ("here", .fz (.str here)), ("mine", .fz (spD (spansOf here known))), ("text", .fz (.str text)), ("theirs", .fz (spD (spansOf text known)))]

theorem spD_get {known : List (Str × Str)} {t path : Str} (h : path ∈ keysOf known t) : dget ((spansOf t known).map (·.1)) ((spansOf t known).map fun p => D.tup [.int p.2.1, .int p.2.2]) path = some (.tup [.int (spanOf known t path).1, .int (spanOf known t path).2]) := by
  have := aget_dget (fun p : Int × Int => D.tup [.int p.1, .int p.2]) path (spansOf t known)
  rw [this]
  have hs : ((spansOf t known).lookup path).isSome = true := by rw [lookup_keys]; exact decide_eq_true h
  unfold spanOf
  cases hl : (spansOf t known).lookup path with
  | none => rw [hl] at hs; cases hs
  | some p => rfl
theorem spD_isSome {known : List (Str × Str)} {t path : Str} : (dget ((spansOf t known).map (·.1)) ((spansOf t known).map fun p => D.tup [.int p.2.1, .int p.2.2]) path).isSome = decide (path ∈ keysOf known t) := by
  have := aget_dget (fun p : Int × Int => D.tup [.int p.1, .int p.2]) path (spansOf t known)
  rw [this, Option.isSome_map, lookup_keys]
  rfl

section
theorem f_path (w : World) {known : List (Str × Str)} {texts gs f : List Str} {P : Str → Prop} {i : Nat} {here text path : Str} (ok : FoundOk known texts P) (inv : Inv P f) (hh : P here) (ht : text ∈ texts) (hp : path ∈ keysOf known text) (hf : here ∈ f) :
    Exs w 6 (defScope 30) (put (fS2 known gs f i here text) "path" (.fz (.str path))) fPath .next (fS2 known gs (pathStep known here text f path) i here text) := by
  have z : ∀ n, n ≤ 10000000 → n ≤ sizeLine := fun n h => by simp only [sizeLine]; omega
  unfold pathStep
  refine exs_cons (ex_if (b := decide (path ∈ keysOf known here)) ((tr_compare (ev_name (by rfl)) (ev_name (by rfl)) op_in_dict).to spD_isSome) (fun hb => ?_) (fun hb => ?_)) exs_keep
  · have hm : path ∈ keysOf known here := by simpa using hb
    rw [if_pos hm]
    have st := ok.step here text path hh ht hm hp
    have lh := ok.short here hh
    have lt := ok.short text (ok.init text ht)
    have e1 := Txt.slice_le here none (some (spanOf known here path).1)
    have e2 := Txt.slice_le text (some (spanOf known text path).1) (some (spanOf known text path).2)
    have e3 := Txt.slice_le here (some (spanOf known here path).2) none
    have h2 : ∀ t : Str, (([D.int (spanOf known t path).1, D.int (spanOf known t path).2] : List D)).length ≤ sizeLine := fun t => z _ (by simp)
    refine exs_cons (ex_assign (d := .str (splice known here text path)) (ev_binop (ev_binop (ev_slice_str (ev_name (by rfl)) evp_none (evp_some (ev_item (ev_item (ev_name (by rfl)) (ev_name (by rfl)) (item_dict (spD_get hm))) ev_int (item_tup (by decide) (by rfl) (h2 here)))) (z _ (by omega)))
      (ev_slice_str (ev_name (by rfl)) (evp_some (ev_item (ev_item (ev_name (by rfl)) (ev_name (by rfl)) (item_dict (spD_get hp))) ev_int (item_tup (by decide) (by rfl) (h2 text)))) (evp_some (ev_item (ev_item (ev_name (by rfl)) (ev_name (by rfl)) (item_dict (spD_get hp))) ev_int (item_tup (by decide) (by rfl) (h2 text)))) (z _ (by omega))) (op_add_str (z _ (by omega))))
      (ev_slice_str (ev_name (by rfl)) (evp_some (ev_item (ev_item (ev_name (by rfl)) (ev_name (by rfl)) (item_dict (spD_get hm))) ev_int (item_tup (by decide) (by rfl) (h2 here)))) evp_none (z _ (by omega))) (op_add_str (z _ (by rw [str_add_length]; omega)))) (asg_local (by rfl))) ?_
    generalize splice known here text path = fresh at st
    have hfl := ok.short fresh st.p
    have hcount := ok.count f inv.1 inv.2
    unfold addNew1
    refine exs_cons (ex_if (b := decide (fresh ∉ f)) (tr_borrow (tr_compare (ev_name (by rfl)) (ev_name (by rfl)) (op_notIn_iff .str (x := fresh) (xs := f) (by simp)))) (fun hb => ?_) (fun hb => ?_)) exs_keep
    · have hn : fresh ∉ f := by simpa using hb
      rw [if_neg hn]
      have hne : fresh ≠ here := fun e => hn (e ▸ hf)
      have s1 := st.ne hne
      have s2 := st.out hne
      have s3 := st.com hne
      have s4 := st.went
      have s5 := st.came
      have kh := ok.keys here hh
      have kf := ok.keys fresh st.p
      have rh := rising_sort (ok.nodup here hh)
      have rf := rising_sort (ok.nodup fresh st.p)
      have lsh : (sortS (keysOf known here)).length < 64 := by rw [(sortS_perm _).length_eq]; exact kh
      have lsf : (sortS (keysOf known fresh)).length < 64 := by rw [(sortS_perm _).length_eq]; exact kf
      refine exs_cons (ex_append (ds := f.map .str) (by rfl) (ev_name (by rfl)) (by rfl) (z _ (by rw [List.length_map]; omega)) (by rfl)) ?_
      refine exs_cons (ex_append (ds := bookD known f) (by rfl) (ev_call nm__law_spans ck__law_spans (evs_cons (ev_name (by rfl)) (evs_cons (ev_name (by rfl)) evs_nil)) ((c_spans w fresh known ok.k10 hfl).op.le (by decide))) (by rfl) (z _ (by unfold bookD; rw [List.length_map]; omega)) (by rfl)) ?_
      have hlast : (bookD known f ++ [spD (spansOf fresh known)])[f.length]? = some (spD (spansOf fresh known)) := by unfold bookD; simp
      refine exs_cons (ex_assign_tuple (d := .tup [.list ((mdiff (sortS (keysOf known here)) (sortS (keysOf known fresh))).map .str), .list ((mdiff (sortS (keysOf known fresh)) (sortS (keysOf known here))).map .str)])
        (ev_call nm_sorted_list_difference ck_sorted_list_difference (evs_cons (ev_call nm_sorted (callOk_builtin _) (evs_cons (ev_name (by rfl)) evs_nil) (op_sorted_dict (ks := keysOf known here) kh)) (evs_cons (ev_call nm_sorted (callOk_builtin _) (evs_cons (ev_own_item (ds := bookD known f ++ [spD (spansOf fresh known)]) (j := f.length) (by rfl) (ev_neg ev_int) (by rfl) (.inr ⟨rfl, by unfold bookD; simp⟩) hlast (z _ (by unfold bookD; simp; omega)) (by rfl)) evs_nil) (op_sorted_dict (ks := keysOf known fresh) kf)) evs_nil))
          ((c_diff w _ _ rh rf (by omega) (by omega)).op.le (by decide))) (asg_tuple (Asgs.cons (asg_local (by rfl)) (Asgs.cons (asg_local (by rfl)) (Asgs.nil _))))) ?_
      have lW : (mdiff (sortS (keysOf known here)) (sortS (keysOf known fresh))).length ≤ 64 := Nat.le_trans (List.length_filter_le _ _) (by omega)
      have lC : (mdiff (sortS (keysOf known fresh)) (sortS (keysOf known here))).length ≤ 64 := Nat.le_trans (List.length_filter_le _ _) (by omega)
      generalize mdiff (sortS (keysOf known here)) (sortS (keysOf known fresh)) = W at s1 s2 s3 s4 lW
      generalize mdiff (sortS (keysOf known fresh)) (sortS (keysOf known here)) = C at s1 s2 s3 s5 lC
      have zWC : (W.map D.str).length + (C.map D.str).length ≤ sizeLine := z _ (by simp only [List.length_map]; omega)
      refine exs_cons (ex_if (b := false) (tr_or (b := false) ((tr_compare (ev_binop (ev_name (by rfl)) (ev_name (by rfl)) (op_add_list zWC)) (ev_list evs_nil) op_eq_nil).to ?_) (fun _ => tr_or (b := false) (tr_compare (ev_name (by rfl)) (Ev.to (ev_binop (ev_name (by rfl)) (ev_name (by rfl)) (op_add_list zWC)) (by rw [← List.map_append]; rfl)) (op_in_iff .str (x := path) (xs := W ++ C) (by simpa using s2)))
        (fun _ => tr_or (b := false) ((tr_compare (ev_call nm_commonpath ck_commonpath (evs_cons (Ev.to (ev_binop (ev_binop (ev_list (evs_cons (ev_name (by rfl)) evs_nil)) (ev_name (by rfl)) (op_add_list (z _ (by simp only [List.length_map, List.length_cons, List.length_nil]; omega)))) (ev_name (by rfl)) (op_add_list (z _ (by simp only [List.length_append, List.length_map, List.length_cons, List.length_nil]; omega)))) (d' := .list ((path :: (W ++ C)).map .str)) (by simp)) evs_nil) ((c_common w path (W ++ C) s3 st.join st.jl).op.le (by decide))) (ev_name (by rfl)) op_ne_str).to (by rw [st.self]; simp)) (fun _ => tr_or_nil) (fun h => by cases h)) (fun h => by cases h)) (fun h => by cases h)) (fun h => by cases h) (fun _ => exs_keep)) ?_
      · cases W with
        | nil =>
          cases C with
          | nil => exact (s1 rfl).elim
          | cons a b => rfl
        | cons a b => rfl
      refine exs_cons (ex_if (b := false) ((tr_compare (ev_binop (ev_of_N (evN_comp' (out := []) [("theirs", .fz (spD (spansOf text known)))] (iters_list (l := W.map .str) (ev_name (by rfl))).r (InnerL.inner ⟨⟨_, rfl⟩, by rfl, by rfl, by rfl, trivial⟩)
            (comp_one' (fun j => decide (W.getD j "" ∈ keysOf known text)) (fun j => .str (W.getD j "")) ?_ (by rfl) (z _ (by rw [List.length_map]; omega)) (by rfl) fun j hj => ?_)))
          (ev_of_N (evN_comp' (out := []) [("theirs", .fz (spD (spansOf text known)))] (iters_list (l := C.map .str) (ev_name (by rfl))).r (InnerL.inner ⟨⟨_, rfl⟩, by rfl, by rfl, by rfl, trivial⟩)
            (comp_one' (fun j => !decide (C.getD j "" ∈ keysOf known text)) (fun j => .str (C.getD j "")) ?_ (by rfl) (z _ (by rw [List.length_map]; omega)) (by rfl) fun j hj => ?_)))
          (op_add_list (z _ (by simp)))) (ev_list evs_nil) op_ne_nil).to (by rfl)) (fun h => by cases h) (fun _ => exs_keep)) (exs_to ⟨by rfl, by rfl, by rfl, ?_, ?_, by rfl, by rfl, by rfl, by rfl, trivial⟩)
      · rw [List.length_map]
        rw [filter_range_getD (fun x : Str => decide (x ∈ keysOf known text)) D.str (Str.ofString "") W]
        rw [List.filter_eq_nil_iff.mpr (fun x hx => by simpa using s4 x hx)]; rfl
      · rw [List.length_map] at hj
        refine ⟨_, tests_one ((tr_compare ((ev_name (by rfl)).to (getD_map_str W j hj)) (ev_name (by rfl)) op_in_dict).to spD_isSome), fun _ => ⟨_, (ev_name (by rfl)).to (getD_map_str W j hj), put_ext (by rfl)⟩, fun _ => put_ext (by rfl)⟩
      · rw [List.length_map]
        rw [filter_range_getD (fun x : Str => !decide (x ∈ keysOf known text)) D.str (Str.ofString "") C]
        rw [List.filter_eq_nil_iff.mpr (fun x hx => by simpa using s5 x hx)]; rfl
      · rw [List.length_map] at hj
        refine ⟨_, tests_one ((tr_compare ((ev_name (by rfl)).to (getD_map_str C j hj)) (ev_name (by rfl)) op_notIn_dict).to (by rw [spD_isSome])), fun _ => ⟨_, (ev_name (by rfl)).to (getD_map_str C j hj), put_ext (by rfl)⟩, fun _ => put_ext (by rfl)⟩
      · refine (show _ = some (Slot.own (.list (f.map .str ++ [.str fresh]))) from rfl).trans ?_
        rw [List.map_append]; rfl
      · refine (show _ = some (Slot.own (.list (bookD known f ++ [spD (spansOf fresh known)]))) from rfl).trans ?_
        unfold bookD; rw [List.map_append]; rfl
    · have hn : fresh ∈ f := by simpa using hb
      rw [if_pos hn]
      exact exs_to ⟨by rfl, by rfl, by rfl, by rfl, by rfl, by rfl, by rfl, by rfl, by rfl, trivial⟩
  · have hm : path ∉ keysOf known here := by simpa using hb
    rw [if_neg hm]
    exact exs_to ⟨by rfl, by rfl, by rfl, by rfl, by rfl, by rfl, by rfl, by rfl, by rfl, trivial⟩
end
end Mine
end

noncomputable section
open PySem PySem.W PyProof.Rows PySem.SeqAt
namespace Mine
theorem giverD_get {known : List (Str × Str)} {gs : List Str} {g : Nat} (h : g < gs.length) : (giverD known gs).getD g .none = .tup [.str (gs.getD g ""), spD (spansOf (gs.getD g "") known)] := by
  unfold giverD bookD
  have : ∀ (l : List Str) (g : Nat), g < l.length → (zipD (l.map D.str) (l.map fun t => spD (spansOf t known)))[g]? = some (.tup [.str (l.getD g ""), spD (spansOf (l.getD g "") known)]) := by
    intro l
    induction l with
    | nil => intro g h; cases h
    | cons a l ih =>
      intro g h
      cases g with
      | zero => rfl
      | succ g => simpa [zipD] using ih g (by simpa using h)
  rw [List.getD_eq_getElem?_getD, this gs g h]; rfl
theorem giverD_length {known : List (Str × Str)} {gs : List Str} : (giverD known gs).length = gs.length := by
  unfold giverD bookD
  rw [zipD_length (by simp), List.length_map]
theorem take_succ_getD {α : Type} (l : List α) (d : α) {i : Nat} (h : i < l.length) : l.take (i + 1) = l.take i ++ [l.getD i d] := by
  rw [List.take_succ, List.getElem?_eq_getElem h, List.getD_eq_getElem?_getD, List.getElem?_eq_getElem h]; rfl

theorem exs_then {w : World} {k : Nat} {sc : Scope} {σ σ₁ σ' : St} {sts : List Stmt} {f : Fl} (h : Exs w k sc σ sts f σ₁) (q : Sub σ' σ₁) : Exs w k sc σ sts f σ' := fun A F h₀ R s hf lh rm S =>
  wpAny_mono (h A F h₀ R s hf lh rm S) (fun v s' ⟨R', st, S', r⟩ => ⟨R', st, S'.weaken q.lk, r⟩) fun _ _ e => e

/-- how often the while turns -/
theorem stop_at (len : Nat → Nat) (h : ∀ i, (∀ j, j < i → j < len j) → len i < 64) : ∃ N, (∀ j, j < N → j < len j) ∧ len N ≤ N := by
  by_cases h64 : ∀ j, j < 64 → j < len j
  · exact ⟨64, h64, by have := h 64 h64; omega⟩
  · have : ∀ n, (∀ j, j < n → j < len j) ∨ ∃ N, (∀ j, j < N → j < len j) ∧ len N ≤ N := by
      intro n
      induction n with
      | zero => exact .inl fun j hj => absurd hj (Nat.not_lt_zero _)
      | succ n ih =>
        rcases ih with ih | ih
        · by_cases hn : n < len n
          · exact .inl fun j hj => by
              by_cases e : j = n
              · exact e ▸ hn
              · exact ih j (by omega)
          · exact .inr ⟨n, ih, by omega⟩
        · exact .inr ih
    exact (this 64).resolve_left h64

section
theorem f_giver (w : World) {known : List (Str × Str)} {texts gs f : List Str} {P : Str → Prop} {i : Nat} {here text : Str} (ok : FoundOk known texts P) (inv : Inv P f) (hh : P here) (ht : text ∈ texts) (hf : here ∈ f) :
    Exs w 6 (defScope 30) (fS2 known gs f i here text) fGiver .next (fS2 known gs (giverStep known here f text) i here text) := by
  have hlen : (keysOf known text).length = ((spansOf text known).map (·.1)).length := rfl
  have mono : ∀ (ps : List Str) (f : List Str), here ∈ f → here ∈ ps.foldl (pathStep known here text) f := by
    intro ps
    induction ps with
    | nil => exact fun f h => h
    | cons p ps ih =>
      intro f h
      refine ih _ ?_
      unfold pathStep
      split
      · unfold addNew1
        split
        · exact h
        · exact List.mem_append_left _ h
      · exact h
  refine exs_cons (ex_for' (σe := fS2 known gs (giverStep known here f text) i here text) (fun j => fS2 known gs (((keysOf known text).take j).foldl (pathStep known here text) f) i here text)
    (iters_dict (ks := keysOf known text) (ev_name (by rfl))) ⟨by rfl, by rfl, by rfl, by rfl, by rfl, by rfl, by rfl, by rfl, by rfl, trivial⟩ (by rw [List.take_length]; rfl) (fun j hj => ?_)) exs_keep
  have hm : (keysOf known text).getD j default ∈ keysOf known text := getD_mem hj
  have hinv := giver_fold ok hh ht ((keysOf known text).take j) f (fun p hp => List.mem_of_mem_take hp) inv
  refine ⟨_, .next, asg_local (by rfl), .inl rfl, ?_⟩
  rw [take_succ_getD _ default hj, List.foldl_append]
  exact f_path w ok hinv hh ht hm (mono _ _ hf)
theorem f_turn (w : World) {known : List (Str × Str)} {texts f : List Str} {P : Str → Prop} {i : Nat} (ok : FoundOk known texts P) (inv : Inv P f) (hi : i < f.length) :
    Exs w 6 (defScope 30) (fS0 known (firsts texts) f i) fWhile .next (fS0 known (firsts texts) (hereStep known (firsts texts) f (f.getD i "")) (i + 1)) := by
  have z : ∀ n, n ≤ 10000000 → n ≤ sizeLine := fun n h => by simp only [sizeLine]; omega
  have hcount := ok.count f inv.1 inv.2
  have hm := getD_mem (d := Str.ofString "") hi
  have hP := inv.2 _ hm
  have g1 : (f.map D.str)[i]? = some (.str (f.getD i "")) := by simp [List.getD, hi]
  have g2 : (bookD known f)[i]? = some (spD (spansOf (f.getD i "") known)) := by unfold bookD; simp [List.getD, hi]
  have mono : ∀ (ps : List Str) (f : List Str) (here text : Str), here ∈ f → here ∈ ps.foldl (pathStep known here text) f := by
    intro ps
    induction ps with
    | nil => exact fun f _ _ h => h
    | cons p ps ih =>
      intro f here text h
      refine ih _ _ _ ?_
      unfold pathStep
      split
      · unfold addNew1
        split
        · exact h
        · exact List.mem_append_left _ h
      · exact h
  have mono2 : ∀ (gs : List Str) (f : List Str) (here : Str), here ∈ f → here ∈ gs.foldl (giverStep known here) f := by
    intro gs
    induction gs with
    | nil => exact fun f _ h => h
    | cons g gs ih => exact fun f here h => ih _ _ (mono _ _ _ _ h)
  generalize f.getD i "" = here at hm hP g1 g2
  refine exs_cons (ex_assign (ev_own_item (j := i) (by rfl) (ev_name (by rfl)) (by rfl) (.inl ⟨by omega, by simp⟩) g1 (z _ (by rw [List.length_map]; omega)) (by rfl)) (asg_local (by rfl))) ?_
  refine exs_cons (ex_assign (ev_own_item (j := i) (by rfl) (ev_name (by rfl)) (by rfl) (.inl ⟨by omega, by simp⟩) g2 (z _ (by unfold bookD; rw [List.length_map]; omega)) (by rfl)) (asg_local (by rfl))) ?_
  refine exs_cons (ex_for' (σe := fS1 known (firsts texts) (hereStep known (firsts texts) f here) i here) (fun g => fS1 known (firsts texts) (((firsts texts).take g).foldl (giverStep known here) f) i here)
    (iters_list (l := giverD known (firsts texts)) (ev_name (by rfl))) ⟨by rfl, by rfl, by rfl, by rfl, by rfl, by rfl, by rfl, trivial⟩ (by rw [giverD_length, List.take_length]; rfl) (fun g hg => ?_)) ?_
  · rw [giverD_length] at hg
    rw [giverD_get hg]
    have htm := firsts_sub texts _ (getD_mem (d := Str.ofString "") hg)
    rw [take_succ_getD _ (Str.ofString "") hg, List.foldl_append]
    have hinv := here_fold ok hP ((firsts texts).take g) f (fun q hq => firsts_sub texts q (List.mem_of_mem_take hq)) inv
    refine ⟨_, .next, asg_tuple (Asgs.cons (asg_local (by rfl)) (Asgs.cons (asg_cell (by rfl)) (Asgs.nil _))), .inl rfl, ?_⟩
    refine exs_sub (σ₁ := fS2 known (firsts texts) (((firsts texts).take g).foldl (giverStep known here) f) i here ((firsts texts).getD g "")) ⟨by rfl, by rfl, by rfl, by rfl, by rfl, by rfl, by rfl, by rfl, by rfl, trivial⟩ ?_
    exact exs_then (f_giver w ok hinv hP htm (mono2 _ _ _ hm)) ⟨by rfl, by rfl, by rfl, by rfl, by rfl, by rfl, by rfl, trivial⟩
  refine exs_cons (ex_aug (by rfl) ev_int (by rfl) op_iadd_int (by rfl)) (exs_to ⟨by rfl, by rfl, by rw [lookup_put, if_pos rfl, int_succ], by rfl, by rfl, trivial⟩)
end
end Mine
end

noncomputable section
open PySem PySem.W PyProof.Rows PySem.SeqAt
namespace Mine
section
theorem c_found (w : World) {known : List (Str × Str)} {texts : List Str} {P : Str → Prop} (ok : FoundOk known texts P) (hl : texts.length ≤ 64) :
    ∃ N, (∀ j, j < N → j < (foundAt known texts j).length) ∧ (foundAt known texts N).length ≤ N ∧ Contract w 7 (.ref 198) [.list (texts.map .str), kvD known] (.list ((foundAt known texts N).map .str)) := by
  have z : ∀ n, n ≤ 10000000 → n ≤ sizeLine := fun n h => by simp only [sizeLine]; omega
  have cnt : ∀ i, (∀ j, j < i → j < (foundAt known texts j).length) → (foundAt known texts i).length < 64 := fun i h => let v := foundAt_inv ok i h; ok.count _ v.1 v.2
  obtain ⟨N, hN, hstop⟩ := stop_at (fun i => (foundAt known texts i).length) cnt
  refine ⟨N, hN, hstop, ?_⟩
  obtain ⟨fd, X, hb⟩ := fn__law_found w
  refine contract_def (k := 6) X [Str.ofString "texts", Str.ofString "known"] hb rfl (by decide) (by rfl) ⟨rfl, rfl, rfl⟩ ?_
  refine exs_cons (ex_assign_own (evN_list evs_nil) (by rfl)) ?_
  refine exs_cons (ex_for' (σe := [("known", .fz (kvD known)), ("found", .own (.list ((firsts texts).map .str)))]) (fun i => [("known", .fz (kvD known)), ("found", .own (.list (((texts.take i).foldl addNew1 []).map .str)))])
    (iters_list (l := texts.map .str) (ev_name (by rfl))) ⟨by rfl, by rfl, trivial⟩ (by rw [List.length_map, List.take_length]; rfl) (fun i hi => ?_)) ?_
  · rw [List.length_map] at hi
    rw [getD_map_str texts i hi]
    rw [take_succ_getD _ (Str.ofString "") hi, List.foldl_append]
    have hinv := firsts_fold (P := P) (texts.take i) [] (by simp) (by simp) (fun t h => ok.init t (List.mem_of_mem_take h))
    have hcnt := ok.count _ hinv.1 hinv.2
    generalize (texts.take i).foldl addNew1 [] = f at hcnt
    generalize texts.getD i "" = t
    refine ⟨_, .next, asg_local (by rfl), .inl rfl, ?_⟩
    show Exs w 6 (defScope 30) _ _ _ [("known", .fz (kvD known)), ("found", .own (.list ((addNew1 f t).map .str)))]
    unfold addNew1
    refine exs_cons (ex_if (b := decide (t ∉ f)) (tr_borrow (tr_compare (ev_name (by rfl)) (ev_name (by rfl)) (op_notIn_iff .str (x := t) (xs := f) (by simp)))) (fun hb => ?_) (fun hb => ?_)) exs_keep
    · have hn : t ∉ f := by simpa using hb
      rw [if_neg hn]
      refine exs_cons (ex_append (ds := f.map .str) (by rfl) (ev_name (by rfl)) (by rfl) (z _ (by rw [List.length_map]; omega)) (by rfl)) (exs_to ⟨by rfl, ?_, trivial⟩)
      rw [lookup_put, if_pos rfl, List.map_append]; rfl
    · have hn : t ∈ f := by simpa using hb
      rw [if_pos hn]
      exact exs_to ⟨by rfl, by rfl, trivial⟩
  have hfi := firsts_inv ok
  have hfc := ok.count _ hfi.1 hfi.2
  have hfp : 0 < (firsts texts).length := by
    have := cnt 0 (fun j hj => absurd hj (Nat.not_lt_zero _))
    cases hf : firsts texts with
    | cons a b => simp
    | nil =>
      exfalso
      cases ht : texts with
      | nil => exact ok.some ht
      | cons t ts =>
        have mono : ∀ (l f : List Str), f ≠ [] → l.foldl addNew1 f ≠ [] := by
          intro l
          induction l with
          | nil => exact fun f h => h
          | cons a l ih =>
            intro f h
            refine ih _ ?_
            unfold addNew1
            split
            · exact h
            · simp
        refine mono ts (addNew1 [] t) (by unfold addNew1; simp) ?_
        rw [ht] at hf; exact hf
  have hg0 : foundAt known texts 0 = firsts texts := rfl
  refine exs_cons (ex_assign_comp' (out := bookD known (firsts texts)) [("known", .fz (kvD known))] (itersR_own (ds := (firsts texts).map .str) (by rfl) (by rfl)) (InnerL.inner ⟨⟨_, rfl⟩, by rfl, by rfl, by rfl, trivial⟩)
    (comp_map' (fun j => spD (spansOf ((firsts texts).getD j "") known)) ?_ (by rfl) (z _ (by rw [List.length_map]; omega)) (by rfl) fun j hj => ?_) (by rfl)) ?_
  · rw [List.length_map]
    exact map_range_getD (fun t : Str => spD (spansOf t known)) (Str.ofString "") (firsts texts)
  · rw [List.length_map] at hj
    have hm := getD_mem (d := Str.ofString "") hj
    exact ⟨_, ev_call nm__law_spans ck__law_spans (evs_cons ((ev_name (by rfl)).to (getD_map_str _ j hj)) (evs_cons (ev_name (by rfl)) evs_nil)) ((c_spans w _ known ok.k10 (ok.short _ (hfi.2 _ hm))).op.le (by decide)), put_ext (by rfl)⟩
  refine exs_cons (ex_assign (ev_list_zip (ds := (firsts texts).map .str) (es := bookD known (firsts texts)) (by rfl) (by rfl) (by unfold bookD; simp) (by simpa using hfp) (z _ (by rw [List.length_map]; omega)) nm_list nm_zip (by rfl) (by rfl)) (asg_local (by rfl))) ?_
  refine exs_cons (ex_assign ev_int (asg_local (by rfl))) ?_
  have test : ∀ i, (foundAt known texts i).length < 64 → ∀ {p1 p2 p3 p4 p5 p6 p7 p8 : Pos} {kd : Nat}, Tr w 6 (defScope 30) (fS0 known (firsts texts) (foundAt known texts i) i) (.Compare (.Name "seen" p1) [.Lt] [.Call (.Name "min" p2) [.Call (.Name "len" p3) [.Name "found" p4] [] p5, .Constant (.int 100) kd p6] [] p7] p8) (decide (i < (foundAt known texts i).length)) (fS0 known (firsts texts) (foundAt known texts i) i) := by
    intro i hc p1 p2 p3 p4 p5 p6 p7 p8 kd
    refine (tr_compare (ev_name (by rfl)) (ev_call nm_min (callOk_builtin _) (evs_cons (ev_borrow (.int _) (ev_call nm_len (callOk_builtin _) (evs_cons (ev_name (by rfl)) evs_nil) (op_len_list (ds := (foundAt known texts i).map .str) (z _ (by rw [List.length_map]; omega))))) (evs_cons ev_int evs_nil)) op_min_int) op_lt_int).to ?_
    rw [List.length_map, if_neg (by omega), Bool.eq_iff_iff]
    simp
  refine exs_cons (σ₁ := fS0 known (firsts texts) (foundAt known texts N) N) (ex_while (n := N) (fun i => fS0 known (firsts texts) (foundAt known texts i) i) (fun i => fS0 known (firsts texts) (foundAt known texts i) i) (Sub.lk ⟨by rfl, by rfl, by rfl, by rfl, by rfl, trivial⟩) (fun i hi => ?_) ?_) ?_
  · have hj := fun j (h : j < i) => hN j (by omega)
    refine ⟨(test i (cnt i hj)).to (decide_eq_true (hN i hi)), .next, .inl rfl, ?_⟩
    exact f_turn w ok (foundAt_inv ok i hj) (hN i hi)
  · exact (test N (cnt N hN)).to (decide_eq_false (by omega))
  · refine exs_freeze "found" (by rfl) ?_
    exact exs_stop (ex_return (ev_name (by rfl))) (by intro h; cases h)
end
end Mine
end

noncomputable section
open PySem PySem.W PyProof.Rows PySem.SeqAt
namespace Mine
noncomputable def toldL (names : List Str) (i : Nat) : List Str := names.map fun x => toldOf x i
noncomputable def knownL (names : List Str) (i : Nat) : List (Str × Str) := (Str.ofString "/", Str.ofString "/") :: (toldL names i).zip names
noncomputable def firstText (told : List Str) (t : Tree) : Str := (textsF told [t] 4 []).getD 0 ""
noncomputable def textsL (names : List Str) (i : Nat) (trees : List Tree) : List Str := trees.map (firstText (toldL names i))
noncomputable def allL (names : List Str) (i : Nat) (trees : List Tree) : List Str := textsF (toldL names i) trees 4 []
structure LawFacts (names : List Str) (i : Nat) (trees : List Tree) : Prop where
  i3 : i < 3
  n3 : names.length = 3
  t3 : trees.length ≤ 3
  t0 : trees ≠ []
  rows : ∀ t ∈ trees, ∀ r ∈ t, r.length ≤ 3
  nm : ∀ x ∈ names, x.length ≤ 10 ∧ (toldOf x i).length ≤ 10 ∧ toldOf x i = writtenOf x i ∧ JoinOk "" ((signs x).map (told1 i)) = true ∧ writtenFits x = true
  nd : (Str.ofString "/" :: toldL names i).Nodup
  one : ∀ t ∈ trees, textsF (toldL names i) [t] 4 [] ≠ []
  fin : ∃ P, FoundOk (knownL names i) (textsL names i trees) P ∧ ∀ N, (∀ j, j < N → j < (foundAt (knownL names i) (textsL names i trees) j).length) → (foundAt (knownL names i) (textsL names i trees) N).length ≤ N →
    (foundAt (knownL names i) (textsL names i trees) N).Perm (allL names i trees)
  cnt : (allL names i trees).length < 64

theorem ex_assign_sc {w : World} {k : Nat} {sc : Scope} {σ σ₁ σ' : St} {x : Str} {p pos : Pos} {value : PySem.Expr} {d : D} (h : Ev w k sc σ value d σ₁) (ha : Asg w k sc True σ₁ (.Name x p) d σ')
    (hs : ∀ F, swapsWith value (some (.Name x p)) pos.line (mkEnv sc F) = pure false := by intro _; rfl) : Ex w k sc σ (.Assign [.Name x p] value pos) .next σ' := fun A F h₀ R s hf lh rm S => by
  rw [exec_Assign_Name _ _ _ _ _ (hs _)]
  refine wpAny_bind (wpAny_standAt (wpAny_bind (wp_then (h A F h₀ R s rm S) fun v R₁ s₁ st₁ S₁ q₁ => ?_)))
  show wpAny (MM w) A (assign (.Name x p) (mkEnv sc F) v >>= fun _ => (pure Flow.next : Sem Flow)) _ _ s₁
  exact wpAny_bind (wpAny_mono (ha A F h₀ R₁ s₁ v (fun _ => hf) lh rm S₁ q₁) (fun _ s₂ ⟨R₂, st₂, S₂⟩ => wpAny_pure ⟨R₂, st₁.trans st₂, S₂, .next⟩) fun _ _ e => e.elim)

section
theorem c_law (w : World) (ns : List Int) (hz : ns.length ≤ 1000) (i : Nat) (hi : ((cellsOf ns).getD 0 0).fmod 3 = (i : Int)) (lf : LawFacts (sortS (namesOf ns)) i (treesOf ns)) :
    Contract w 8 (.ref 203) [.list (ns.map .int)] (.bool true) := by
  have z : ∀ n, n ≤ 10000000 → n ≤ sizeLine := fun n h => by simp only [sizeLine]; omega
  obtain ⟨fd, X, hb⟩ := fn_law w
  have cd := c_drawn w ns hz
  rw [hi] at cd
  generalize sortS (namesOf ns) = names at lf cd
  generalize treesOf ns = trees at lf cd
  obtain ⟨x0, x1, x2, rfl⟩ := len3 lf.n3
  refine contract_def (k := 7) X [Str.ofString "script"] hb rfl (by decide) (by rfl) ⟨rfl, rfl, rfl⟩ ?_
  refine exs_cons (ex_assign_tuple (ev_call nm__law_drawn ck__law_drawn (evs_cons (ev_name (by rfl)) evs_nil) (cd.op.le (by decide))) (asg_tuple (Asgs.cons (asg_cell (by rfl)) (Asgs.cons (asg_local (by rfl)) (Asgs.cons (asg_local (by rfl)) (Asgs.nil _)))))) ?_
  have nmj : ∀ j, j < [x0, x1, x2].length → [x0, x1, x2].getD j "" ∈ [x0, x1, x2] := fun j hj => getD_mem (d := Str.ofString "") hj
  refine exs_cons (ex_assign_comp' (out := (toldL [x0, x1, x2] i).map .str) [("kind", .fz (.int i))] (iters_list (l := [x0, x1, x2].map .str) (ev_name (by rfl))).r (InnerL.inner ⟨⟨_, rfl⟩, by rfl, by rfl, by rfl, trivial⟩)
    (comp_map' (fun j => .str (toldOf ([x0, x1, x2].getD j "") i)) ?_ (by rfl) (z _ (by simp)) (by rfl) fun j hj => ?_) (by rfl)) ?_
  · rfl
  · rw [List.length_map] at hj
    have f := lf.nm _ (nmj j hj)
    rw [getD_map_str _ j hj]
    exact ⟨_, ev_call nm__law_told ck__law_told (evs_cons (ev_name (by rfl)) (evs_cons (ev_name (by rfl)) evs_nil)) ((c_told w _ i lf.i3 (by omega) f.2.2.2.1).op.le (by decide)), put_ext (by rfl)⟩
  refine exs_freeze "told" (by rfl) ?_
  refine exs_cons (ex_assign_sc (ev_of_N (evN_comp' (out := (toldL [x0, x1, x2] i).map .str) [("kind", .fz (.int i))] (iters_list (l := [x0, x1, x2].map .str) (ev_name (by rfl))).r (InnerL.inner ⟨⟨_, rfl⟩, by rfl, by rfl, by rfl, trivial⟩)
    (comp_map' (fun j => .str (toldOf ([x0, x1, x2].getD j "") i)) ?_ (by rfl) (z _ (by simp)) (by rfl) fun j hj => ?_))) (asg_cell (by rfl))) ?_
  · rfl
  · rw [List.length_map] at hj
    have f := lf.nm _ (nmj j hj)
    rw [getD_map_str _ j hj]
    refine ⟨_, ev_call nm__law_written ck__law_written (evs_cons (ev_name (by rfl)) (evs_cons (ev_name (by rfl)) evs_nil)) ?_, put_ext (by rfl)⟩
    rw [f.2.2.1]
    exact (c_written w _ (i : Int) f.2.2.2.2).op.le (by decide)
  have tl : toldL [x0, x1, x2] i = [toldOf x0 i, toldOf x1 i, toldOf x2 i] := rfl
  have z3 : ((toldL [x0, x1, x2] i).map D.str).length ≤ sizeLine := z _ (by simp [tl])
  have z3' : ([x0, x1, x2].map D.str).length ≤ sizeLine := z _ (by simp)
  have hnd := lf.nd
  rw [tl] at hnd
  refine exs_cons (ex_assign (d := kvD (knownL [x0, x1, x2] i)) (ev_of_N (evN_dictE (kds := [(Str.ofString "/", .str "/"), (toldOf x0 i, .str x0), (toldOf x1 i, .str x1), (toldOf x2 i, .str x2)])
    (evD_cons ev_str ev_str (evD_cons (ev_item (ev_name (by rfl)) ev_int (item_list (by decide) (by rfl) z3)) (ev_item (ev_name (by rfl)) ev_int (item_list (by decide) (by rfl) z3'))
      (evD_cons (ev_item (ev_name (by rfl)) ev_int (item_list (by decide) (by rfl) z3)) (ev_item (ev_name (by rfl)) ev_int (item_list (by decide) (by rfl) z3'))
        (evD_cons (ev_item (ev_name (by rfl)) ev_int (item_list (by decide) (by rfl) z3)) (ev_item (ev_name (by rfl)) ev_int (item_list (by decide) (by rfl) z3')) evD_nil)))) hnd (List.cons_ne_nil _ _) (by simp))) (asg_local (by rfl))) ?_
  have ok1 : ∀ t ∈ trees, TreesOk (toldL [x0, x1, x2] i) [t] := fun t ht => ⟨by simp, fun u hu => by rw [List.mem_singleton] at hu; exact hu ▸ lf.rows t ht, fun x hx => by
    obtain ⟨y, hy, rfl⟩ := List.mem_map.mp hx
    exact (lf.nm y hy).2.1, by simp [tl]⟩
  have ok3 : TreesOk (toldL [x0, x1, x2] i) trees := ⟨lf.t3, lf.rows, fun x hx => by
    obtain ⟨y, hy, rfl⟩ := List.mem_map.mp hx
    exact (lf.nm y hy).2.1, by simp [tl]⟩
  refine exs_cons (ex_assign_comp' (out := (textsL [x0, x1, x2] i trees).map .str) [("written", .fz (.list ((toldL [x0, x1, x2] i).map .str)))] (iters_list (l := trees.map TTree.enc) (ev_name (by rfl))).r (InnerL.inner ⟨⟨_, rfl⟩, by rfl, by rfl, by rfl, trivial⟩)
    (comp_map' (fun j => .str (firstText (toldL [x0, x1, x2] i) (trees.getD j []))) ?_ (by rfl) (z _ (by rw [List.length_map]; have := lf.t3; omega)) (by rfl) fun j hj => ?_) (by rfl)) ?_
  · rw [List.length_map]
    have := map_range_getD (fun t : Tree => D.str (firstText (toldL [x0, x1, x2] i) t)) [] trees
    unfold textsL
    rw [List.map_map]; exact this
  · rw [List.length_map] at hj
    have hm := getD_mem (d := ([] : Tree)) hj
    have hone := lf.one _ hm
    have hok := ok1 _ hm
    rw [getD_map_tree _ j hj]
    generalize trees.getD j [] = t at hm hone hok
    have hct := c_texts w (toldL [x0, x1, x2] i) [t] hok 4 [] (by decide) (by decide) (by decide) (by decide) (fun k hk => by cases hk)
    have hb4 := textsF_bound hok 4 [] (by decide) (by decide)
    have hg : ((textsF (toldL [x0, x1, x2] i) [t] 4 []).map D.str)[(0 : Int).toNat]? = some (.str (firstText (toldL [x0, x1, x2] i) t)) := by
      unfold firstText
      cases h : textsF (toldL [x0, x1, x2] i) [t] 4 [] with
      | nil => exact (hone h).elim
      | cons a b => rfl
    have hl4 : ((textsF (toldL [x0, x1, x2] i) [t] 4 []).map D.str).length ≤ sizeLine := z _ (by rw [List.length_map]; exact Nat.le_trans hb4.1 (by decide))
    exact ⟨_, ev_item (ev_call nm__law_texts ck__law_texts (evs_cons (ev_list evs_nil) (evs_cons (ev_list (evs_cons (ev_name (by rfl)) evs_nil)) (evs_cons (ev_name (by rfl)) evs_nil))) (hct.op.le (by decide))) ev_int (item_list (by decide) hg hl4), put_ext (by rfl)⟩
  refine exs_freeze "texts" (by rfl) ?_
  obtain ⟨P, fo, fin⟩ := lf.fin
  obtain ⟨N, h1, h2, cf⟩ := c_found w fo (by unfold textsL; rw [List.length_map]; have := lf.t3; omega)
  have pm := fin N h1 h2
  have ca := c_texts w (toldL [x0, x1, x2] i) trees ok3 4 [] (by decide) (by decide) (by decide) (by decide) (fun k hk => by cases hk)
  have hcnt := lf.cnt
  have hcf : (foundAt (knownL [x0, x1, x2] i) (textsL [x0, x1, x2] i trees) N).length < 64 := by rw [pm.length_eq]; exact hcnt
  unfold allL at pm hcnt
  exact exs_stop (ex_return (ev_compare (ev_call nm_sorted (callOk_builtin _) (evs_cons (ev_call nm__law_found ck__law_found (evs_cons (ev_name (by rfl)) (evs_cons (ev_name (by rfl)) evs_nil)) cf.op) evs_nil) (op_sorted_list hcf))
    (ev_call nm_sorted (callOk_builtin _) (evs_cons (ev_call nm__law_texts ck__law_texts (evs_cons (ev_list evs_nil) (evs_cons (ev_name (by rfl)) (evs_cons (ev_name (by rfl)) evs_nil))) (ca.op.le (by decide))) evs_nil) (op_sorted_list hcnt)) (op_eq_iff .str (b := true) (by simp [sortS_congr pm])))) (by intro h; cases h)
end
end Mine
end

noncomputable section
open PySem PySem.W PyProof.Rows PySem.SeqAt
namespace Mine
/-! documents as trees -/
inductive T where
  | nil
  | node (a b c : T)
namespace T
noncomputable def kid : T → Nat → T
  | .node a _ _, 0 => a
  | .node _ b _, 1 => b
  | .node _ _ c, 2 => c
  | _, _ => .nil
noncomputable def sub : T → List Nat → T
  | t, [] => t
  | t, k :: r => sub (t.kid k) r
noncomputable def setKid : T → Nat → T → T
  | .node _ b c, 0, v => .node v b c
  | .node a _ c, 1, v => .node a v c
  | .node a b _, 2, v => .node a b v
  | t, _, _ => t
noncomputable def put : T → List Nat → T → T
  | _, [], v => v
  | t, k :: r, v => t.setKid k (put (t.kid k) r v)
noncomputable def size : T → Nat
  | .nil => 0
  | .node a b c => 1 + a.size + b.size + c.size
noncomputable def Adm : List T → T → Prop
  | _, .nil => False
  | us, .node a b c => ∃ x y z, T.node x y z ∈ us ∧ (a = .nil ∧ x = .nil ∨ x ≠ .nil ∧ Adm (us.map (kid · 0)) a) ∧ (b = .nil ∧ y = .nil ∨ y ≠ .nil ∧ Adm (us.map (kid · 1)) b) ∧ (c = .nil ∧ z = .nil ∨ z ≠ .nil ∧ Adm (us.map (kid · 2)) c)

theorem kid_nil (k : Nat) : kid .nil k = .nil := rfl
theorem sub_nil : ∀ r, sub .nil r = .nil
  | [] => rfl
  | k :: r => sub_nil r
theorem sub_append : ∀ (r s : List Nat) (t : T), sub t (r ++ s) = sub (sub t r) s
  | [], s, t => rfl
  | k :: r, s, t => sub_append r s (t.kid k)
theorem kid_lt {t : T} {k : Nat} (h : t.kid k ≠ .nil) : k < 3 ∧ ∃ a b c, t = .node a b c := by
  cases t with
  | nil => exact (h rfl).elim
  | node a b c =>
    refine ⟨?_, a, b, c, rfl⟩
    rcases k with _ | _ | _ | k
    · decide
    · decide
    · decide
    · exact (h rfl).elim
theorem kid_of_sub {t : T} {k : Nat} {r : List Nat} (h : sub t (k :: r) ≠ .nil) : t.kid k ≠ .nil := fun e => h (by show sub (t.kid k) r = .nil; rw [e]; exact sub_nil r)
theorem kid_set_same {t : T} {k : Nat} {v : T} (h : t.kid k ≠ .nil) : (t.setKid k v).kid k = v := by
  obtain ⟨hk, a, b, c, rfl⟩ := kid_lt h
  rcases lt3 hk with rfl | rfl | rfl <;> rfl
theorem kid_set_other {t : T} {k j : Nat} {v : T} (h : j ≠ k) : (t.setKid k v).kid j = t.kid j := by
  cases t with
  | nil => rfl
  | node a b c =>
    rcases k with _ | _ | _ | k <;> rcases j with _ | _ | _ | j <;> first | rfl | exact (h rfl).elim
theorem set_ne_nil {t : T} {k : Nat} {v : T} (h : t ≠ .nil) : t.setKid k v ≠ .nil := by
  cases t with
  | nil => exact (h rfl).elim
  | node a b c =>
    rcases k with _ | _ | _ | k <;> exact fun h => T.noConfusion h
theorem sub_put_same {v : T} (s : List Nat) : ∀ (r : List Nat) (t : T), sub t r ≠ .nil → sub (put t r v) (r ++ s) = sub v s
  | [], t, _ => rfl
  | k :: r, t, h => by
    show sub ((t.setKid k (put (t.kid k) r v)).kid k) (r ++ s) = _
    rw [kid_set_same (kid_of_sub h)]
    exact sub_put_same s r _ h
theorem sub_put_other {v : T} : ∀ (r s : List Nat) (t : T), sub t r ≠ .nil → ¬ r <+: s → (sub (put t r v) s = .nil ↔ sub t s = .nil)
  | [], s, t, _, h => (h (List.nil_prefix)).elim
  | k :: r, [], t, h, _ => by
    have ht : t ≠ .nil := fun e => h (by rw [e]; exact sub_nil _)
    exact ⟨fun e => (set_ne_nil ht e).elim, fun e => (ht e).elim⟩
  | k :: r, j :: s, t, h, hp => by
    show sub ((t.setKid k (put (t.kid k) r v)).kid j) s = _ ↔ sub (t.kid j) s = _
    by_cases e : j = k
    · subst e
      rw [kid_set_same (kid_of_sub h)]
      exact sub_put_other r s _ h fun q => hp (by rw [List.cons_prefix_cons]; exact ⟨rfl, q⟩)
    · rw [kid_set_other e]
theorem set_set (t : T) (k : Nat) (v w : T) : (t.setKid k v).setKid k w = t.setKid k w := by
  cases t with
  | nil => rfl
  | node a b c =>
    rcases k with _ | _ | _ | k <;> rfl
theorem put_put {v w : T} : ∀ (r : List Nat) (t : T), sub t r ≠ .nil → put (put t r v) r w = put t r w
  | [], t, _ => rfl
  | k :: r, t, h => by
    show (t.setKid k (put (t.kid k) r v)).setKid k (put ((t.setKid k (put (t.kid k) r v)).kid k) r w) = _
    rw [kid_set_same (kid_of_sub h), set_set, put_put r _ h]; rfl
theorem put_append (w : T) (s : List Nat) : ∀ (r : List Nat) (t : T), put t (r ++ s) w = put t r (put (sub t r) s w)
  | [], t => rfl
  | k :: r, t => by
    show t.setKid k (put (t.kid k) (r ++ s) w) = _
    rw [put_append w s r]; rfl
theorem put_self : ∀ (r : List Nat) (t : T), put t r (sub t r) = t
  | [], t => rfl
  | k :: r, t => by
    show t.setKid k (put (t.kid k) r (sub (t.kid k) r)) = t
    rw [put_self r]
    cases t with
    | nil => rfl
    | node a b c =>
      rcases k with _ | _ | _ | k <;> rfl
theorem ext : ∀ (t u : T), (∀ s, sub t s = .nil ↔ sub u s = .nil) → t = u
  | .nil, .nil, _ => rfl
  | .nil, .node a b c, h => by have := (h []).mp rfl; cases this
  | .node a b c, .nil, h => by have := (h []).mpr rfl; cases this
  | .node a b c, .node x y z, h => by
    rw [ext a x fun s => h (0 :: s), ext b y fun s => h (1 :: s), ext c z fun s => h (2 :: s)]
theorem Adm.ne {us : List T} {t : T} (h : Adm us t) : t ≠ .nil := fun e => by subst e; exact h
theorem adm_self : ∀ (t : T) (us : List T), t ∈ us → t ≠ .nil → Adm us t
  | .nil, us, _, h => (h rfl).elim
  | .node a b c, us, hm, _ => by
    refine ⟨a, b, c, hm, ?_, ?_, ?_⟩
    · by_cases e : a = .nil
      · exact .inl ⟨e, e⟩
      · exact .inr ⟨e, adm_self a _ (List.mem_map.mpr ⟨_, hm, rfl⟩) e⟩
    · by_cases e : b = .nil
      · exact .inl ⟨e, e⟩
      · exact .inr ⟨e, adm_self b _ (List.mem_map.mpr ⟨_, hm, rfl⟩) e⟩
    · by_cases e : c = .nil
      · exact .inl ⟨e, e⟩
      · exact .inr ⟨e, adm_self c _ (List.mem_map.mpr ⟨_, hm, rfl⟩) e⟩
theorem adm_one : ∀ (t u : T), Adm [u] t → t = u
  | .nil, u, h => h.elim
  | .node a b c, u, h => by
    obtain ⟨x, y, z, hm, ha, hb, hc⟩ := h
    rw [List.mem_singleton] at hm
    subst hm
    have k0 : a = x := ha.elim (fun e => e.1.trans e.2.symm) fun e => adm_one a x e.2
    have k1 : b = y := hb.elim (fun e => e.1.trans e.2.symm) fun e => adm_one b y e.2
    have k2 : c = z := hc.elim (fun e => e.1.trans e.2.symm) fun e => adm_one c z e.2
    rw [k0, k1, k2]
theorem adm_put : ∀ (r : List Nat) (us : List T) (H G : T), Adm us H → G ∈ us → sub H r ≠ .nil → sub G r ≠ .nil → Adm us (put H r (sub G r))
  | [], us, H, G, _, hG, _, h => adm_self G us hG h
  | k :: r, us, H, G, hH, hG, h1, h2 => by
    have hk := kid_lt (kid_of_sub h1)
    obtain ⟨hk, a, b, c, rfl⟩ := hk
    obtain ⟨x, y, z, hm, ha, hb, hc⟩ := hH
    have ih := fun (q : T) (hq : Adm (us.map (kid · k)) q) (h : sub q r ≠ .nil) => adm_put r (us.map (kid · k)) q (G.kid k) hq (List.mem_map.mpr ⟨G, hG, rfl⟩) h h2
    match k, hk with
    | 0, _ =>
      have e : a ≠ .nil := kid_of_sub h1
      rcases ha with ⟨e', _⟩ | ⟨hx, ha⟩
      · exact (e e').elim
      · exact ⟨x, y, z, hm, .inr ⟨hx, ih a ha h1⟩, hb, hc⟩
    | 1, _ =>
      have e : b ≠ .nil := kid_of_sub h1
      rcases hb with ⟨e', _⟩ | ⟨hx, hb⟩
      · exact (e e').elim
      · exact ⟨x, y, z, hm, ha, .inr ⟨hx, ih b hb h1⟩, hc⟩
    | 2, _ =>
      have e : c ≠ .nil := kid_of_sub h1
      rcases hc with ⟨e', _⟩ | ⟨hx, hc⟩
      · exact (e e').elim
      · exact ⟨x, y, z, hm, ha, hb, .inr ⟨hx, ih c hc h1⟩⟩
theorem reach (S : T → Prop) (us : List T) (hS : ∀ H G r, S H → G ∈ us → sub H r ≠ .nil → sub G r ≠ .nil → S (put H r (sub G r))) :
    ∀ (U : T) (r : List Nat) (H : T), S H → sub H r ≠ .nil → Adm (us.map (sub · r)) U → S (put H r U)
  | .nil, _, _, _, _, h => h.elim
  | .node a b c, r, H, hH, hr, h => by
    obtain ⟨x, y, z, hm, ha, hb, hc⟩ := h
    obtain ⟨G, hG, eG⟩ := List.mem_map.mp hm
    have eG : sub G r = .node x y z := eG
    have h1 := hS H G r hH hG hr (by rw [eG]; intro h; cases h)
    rw [eG] at h1
    have key : ∀ (k : Nat) (v w u : T), sub v [k] ≠ .nil → v ≠ .nil → S (put H r v) → Adm ((us.map (sub · r)).map (kid · k)) w → (∀ r H, S H → sub H r ≠ .nil → Adm (us.map (sub · r)) w → S (put H r w)) → S (put H r (v.setKid k w)) := fun k v w u hv hv' hs hw ih => by
      have e : sub (put H r v) (r ++ [k]) = sub v [k] := sub_put_same [k] r H hr
      have := ih (r ++ [k]) (put H r v) hs (by rw [e]; exact hv) (by
        have : us.map (sub · (r ++ [k])) = (us.map (sub · r)).map (kid · k) := by
          rw [List.map_map]; apply List.map_congr_left; intro t _; exact sub_append r [k] t
        rw [this]; exact hw)
      rw [put_append, put_put _ _ hr] at this
      have e' : sub (put H r v) r = v := by have := sub_put_same (v := v) [] r H hr; rwa [List.append_nil] at this
      rw [e'] at this
      exact this
    have h2 : S (put H r (.node a y z)) := by
      rcases ha with ⟨e1, e2⟩ | ⟨hx, ha⟩
      · rw [e1, ← e2]; exact h1
      · exact key 0 (.node x y z) a a hx (by intro h; cases h) h1 ha (fun r H => reach S us hS a r H)
    have h3 : S (put H r (.node a b z)) := by
      rcases hb with ⟨e1, e2⟩ | ⟨hx, hb⟩
      · rw [e1, ← e2]; exact h2
      · exact key 1 (.node a y z) b b hx (by intro h; cases h) h2 hb (fun r H => reach S us hS b r H)
    rcases hc with ⟨e1, e2⟩ | ⟨hx, hc⟩
    · rw [e1, ← e2]; exact h3
    · exact key 2 (.node a b z) c c hx (by intro h; cases h) h3 hc (fun r H => reach S us hS c r H)
noncomputable def sizes (us : List T) : Nat := (us.map size).sum
noncomputable def isNode : T → Bool
  | .nil => false
  | .node _ _ _ => true
theorem sizes_kids : ∀ us : List T, sizes (us.map (kid · 0)) + sizes (us.map (kid · 1)) + sizes (us.map (kid · 2)) + us.countP isNode = sizes us
  | [] => rfl
  | .nil :: us => by
    have := sizes_kids us
    simp only [sizes, List.map_cons, List.sum_cons, kid_nil, size, List.countP_cons, isNode] at this ⊢
    simp only [Bool.false_eq_true, if_false]; omega
  | .node a b c :: us => by
    have := sizes_kids us
    simp only [sizes, List.map_cons, List.sum_cons, size, kid, List.countP_cons, isNode] at this ⊢
    simp only [if_true]; omega
theorem adm_size : ∀ (t : T) (us : List T), Adm us t → size t ≤ sizes us
  | .nil, us, h => h.elim
  | .node a b c, us, h => by
    obtain ⟨x, y, z, hm, ha, hb, hc⟩ := h
    have k0 : size a ≤ sizes (us.map (kid · 0)) := by
      rcases ha with ⟨e, _⟩ | ⟨_, h⟩
      · rw [e]; exact Nat.zero_le _
      · exact adm_size a _ h
    have k1 : size b ≤ sizes (us.map (kid · 1)) := by
      rcases hb with ⟨e, _⟩ | ⟨_, h⟩
      · rw [e]; exact Nat.zero_le _
      · exact adm_size b _ h
    have k2 : size c ≤ sizes (us.map (kid · 2)) := by
      rcases hc with ⟨e, _⟩ | ⟨_, h⟩
      · rw [e]; exact Nat.zero_le _
      · exact adm_size c _ h
    have := sizes_kids us
    have hp : 0 < us.countP isNode := List.countP_pos_iff.mpr ⟨_, hm, rfl⟩
    simp only [size]; omega
/-- no deeper than n -/
noncomputable def Low : Nat → T → Prop
  | _, .nil => True
  | 0, .node _ _ _ => False
  | n + 1, .node a b c => Low n a ∧ Low n b ∧ Low n c
theorem low_kid {n : Nat} {t : T} (h : Low (n + 1) t) (k : Nat) : Low n (t.kid k) := by
  cases t with
  | nil => cases n <;> trivial
  | node a b c =>
    match k with
    | 0 => exact h.1
    | 1 => exact h.2.1
    | 2 => exact h.2.2
    | k + 3 => cases n <;> trivial
theorem low_nil (n : Nat) : Low n .nil := by cases n <;> trivial
theorem adm_low : ∀ (n : Nat) (t : T) (us : List T), (∀ u ∈ us, Low n u) → Adm us t → Low n t
  | n, .nil, us, _, h => h.elim
  | 0, .node a b c, us, hl, h => by
    obtain ⟨x, y, z, hm, _⟩ := h
    exact (hl _ hm : Low 0 (.node x y z)).elim
  | n + 1, .node a b c, us, hl, h => by
    obtain ⟨x, y, z, hm, ha, hb, hc⟩ := h
    have hk : ∀ k, ∀ u ∈ us.map (kid · k), Low n u := fun k u hu => by
      obtain ⟨v, hv, rfl⟩ := List.mem_map.mp hu
      exact low_kid (hl v hv) k
    refine ⟨?_, ?_, ?_⟩
    · rcases ha with ⟨e, _⟩ | ⟨_, h⟩
      · rw [e]; exact low_nil n
      · exact adm_low n a _ (hk 0) h
    · rcases hb with ⟨e, _⟩ | ⟨_, h⟩
      · rw [e]; exact low_nil n
      · exact adm_low n b _ (hk 1) h
    · rcases hc with ⟨e, _⟩ | ⟨_, h⟩
      · rw [e]; exact low_nil n
      · exact adm_low n c _ (hk 2) h
theorem low_sub : ∀ (r : List Nat) (n : Nat) (t : T), Low n t → sub t r ≠ .nil → r.length + 1 ≤ n ∧ ∀ k ∈ r, k < 3
  | [], 0, .nil, _, h => (h rfl).elim
  | [], 0, .node _ _ _, h, _ => h.elim
  | [], n + 1, _, _, _ => ⟨by simp, by simp⟩
  | k :: r, 0, .nil, _, h => (h (sub_nil _)).elim
  | k :: r, 0, .node _ _ _, h, _ => h.elim
  | k :: r, n + 1, t, hl, h => by
    have h1 := low_sub r n _ (low_kid hl k) h
    have h2 := (kid_lt (kid_of_sub h)).1
    refine ⟨by simp; omega, fun j hj => ?_⟩
    rcases List.mem_cons.mp hj with e | hj
    · exact e ▸ h2
    · exact h1.2 j hj
end T
end Mine
end

noncomputable section
open PySem PySem.W PyProof.Rows PySem.SeqAt
namespace Mine
open T
theorem nil_app (a : Str) : ("" : Str) ++ a = a := str_ext (by show (#[] ++ a.cps).toList = _; simp)
theorem app_nil (a : Str) : a ++ ("" : Str) = a := str_ext (by show (a.cps ++ #[]).toList = _; simp)
theorem app_assoc (a b c : Str) : a ++ b ++ c = a ++ (b ++ c) := Str.append_assoc a b c
noncomputable def heldAt (row : Row) (trees : List Tree) : Nat → List (List Int)
  | 0 => []
  | i + 1 => if row ∈ trees.getD i [] ∧ ¬ innerOf row (trees.getD i []) ∈ heldAt row trees i then heldAt row trees i ++ [innerOf row (trees.getD i [])] else heldAt row trees i
theorem textsAt_held (T : Int → List Str) (row : Row) (trees : List Tree) : ∀ i, textsAt T row trees i = ⟨(heldAt row trees i).flatMap fun ks => wholeAt T ks ks.length, heldAt row trees i⟩
  | 0 => rfl
  | i + 1 => by
    simp only [textsAt, heldAt, textsAt_held T row trees i]
    split
    · rw [List.flatMap_append]; simp
    · rfl
theorem held_mem (row : Row) (trees : List Tree) (ks : List Int) : ∀ i, ks ∈ heldAt row trees i ↔ ∃ j, j < i ∧ row ∈ trees.getD j [] ∧ innerOf row (trees.getD j []) = ks
  | 0 => by simp [heldAt]
  | i + 1 => by
    simp only [heldAt]
    have ih := held_mem row trees ks i
    constructor
    · intro h
      split at h
      · rename_i hc
        rcases List.mem_append.mp h with h | h
        · obtain ⟨j, hj, r⟩ := ih.mp h; exact ⟨j, by omega, r⟩
        · rw [List.mem_singleton] at h; exact ⟨i, by omega, hc.1, h.symm⟩
      · obtain ⟨j, hj, r⟩ := ih.mp h; exact ⟨j, by omega, r⟩
    · rintro ⟨j, hj, h1, h2⟩
      by_cases e : j = i
      · subst e
        split
        · rw [h2]; simp
        · rename_i hc
          rw [← h2]
          exact Decidable.byContradiction fun q => hc ⟨h1, q⟩
      · have := ih.mpr ⟨j, by omega, h1, h2⟩
        split
        · exact List.mem_append.mpr (.inl this)
        · exact this
noncomputable def heldF (row : Row) (trees : List Tree) := heldAt row trees trees.length
theorem heldF_mem {row : Row} {trees : List Tree} {ks : List Int} : ks ∈ heldF row trees ↔ ∃ t ∈ trees, row ∈ t ∧ innerOf row t = ks := by
  unfold heldF
  rw [held_mem]
  constructor
  · rintro ⟨j, hj, h1, h2⟩
    exact ⟨_, getD_mem hj, h1, h2⟩
  · rintro ⟨t, ht, h1, h2⟩
    obtain ⟨j, hj, rfl⟩ := List.getElem_of_mem ht
    refine ⟨j, hj, ?_⟩
    have : trees.getD j [] = trees[j] := by rw [List.getD_eq_getElem?_getD, List.getElem?_eq_getElem hj]; rfl
    rw [this]; exact ⟨h1, h2⟩
theorem held_nodup (row : Row) (trees : List Tree) : ∀ i, (heldAt row trees i).Nodup
  | 0 => by simp [heldAt]
  | i + 1 => by
    have ih := held_nodup row trees i
    simp only [heldAt]
    split
    · rename_i hc
      rw [List.nodup_append]
      refine ⟨ih, by simp, fun a ha b hb e => ?_⟩
      rw [List.mem_singleton] at hb
      subst hb; subst e; exact hc.2 ha
    · exact ih
theorem held_len (row : Row) (trees : List Tree) : ∀ i, i ≤ trees.length → (heldAt row trees i).length ≤ (trees.take i).countP (fun t => decide (row ∈ t))
  | 0, _ => Nat.zero_le _
  | i + 1, h => by
    have ih := held_len row trees i (by omega)
    have e : trees.take (i + 1) = trees.take i ++ [trees.getD i []] := Mine.take_succ_getD trees [] (by omega)
    simp only [heldAt]
    rw [e, List.countP_append]
    split
    · rename_i hc
      have : [trees.getD i []].countP (fun t => decide (row ∈ t)) = 1 := by rw [List.countP_cons, if_pos (by simpa using hc.1)]; rfl
      rw [this, List.length_append]; simp; exact ih
    · omega
theorem heldF_len (row : Row) (trees : List Tree) : (heldF row trees).length ≤ trees.countP (fun t => decide (row ∈ t)) := by
  have := held_len row trees trees.length (Nat.le_refl _)
  rwa [List.take_length] at this

noncomputable def rend (nm : Nat → Str) (x : Str) : T → Str
  | .nil => ""
  | .node a b c => wrap x ((rend nm (nm 0) a ++ rend nm (nm 1) b) ++ rend nm (nm 2) c)
noncomputable def bod (nm : Nat → Str) : T → Str
  | .nil => ""
  | .node a b c => (rend nm (nm 0) a ++ rend nm (nm 1) b) ++ rend nm (nm 2) c
noncomputable def toT : Nat → Tree → Row → T
  | 0, _, _ => .nil
  | f + 1, t, row => if row ∈ t then .node (toT f t (row ++ [0])) (toT f t (row ++ [1])) (toT f t (row ++ [2])) else .nil
noncomputable def opt (ks : List Int) (k : Int) (l : List T) : List T := if k ∈ ks then l else [.nil]
noncomputable def cart (A B C : List T) : List T := A.flatMap fun a => B.flatMap fun b => C.map fun c => .node a b c
noncomputable def docsF (trees : List Tree) : Nat → Row → List T
  | 0, _ => []
  | f + 1, row => (heldF row trees).flatMap fun ks => cart (opt ks 0 (docsF trees f (row ++ [0]))) (opt ks 1 (docsF trees f (row ++ [1]))) (opt ks 2 (docsF trees f (row ++ [2])))
theorem inner_form (row : Row) (t : Tree) : innerOf row t = (([0, 1, 2] : List Int)).filter fun k => decide (row ++ [k] ∈ t) := rfl
theorem cart_map {β : Type} (A B C : List T) (g : T → β) : (cart A B C).map g = A.flatMap fun a => B.flatMap fun b => C.map fun c => g (.node a b c) := by
  unfold cart
  rw [List.map_flatMap]
  congr 1; funext a
  rw [List.map_flatMap]
  congr 1; funext b
  rw [List.map_map]; rfl
theorem flat_one {α β : Type} (g : α → β) : ∀ l : List α, l.flatMap (fun b => [g b]) = l.map g
  | [] => rfl
  | a :: l => by rw [List.flatMap_cons, flat_one g l]; rfl
theorem flat_congr {α β : Type} {f g : α → List β} : ∀ {l : List α}, (∀ a ∈ l, f a = g a) → l.flatMap f = l.flatMap g
  | [], _ => rfl
  | a :: l, h => by rw [List.flatMap_cons, List.flatMap_cons, h a List.mem_cons_self, flat_congr fun b hb => h b (List.mem_cons_of_mem _ hb)]
theorem whole_cart (nm : Nat → Str) (X : Int → List Str) (D : Int → List T) (h0 : X 0 = (D 0).map (rend nm (nm 0))) (h1 : X 1 = (D 1).map (rend nm (nm 1))) (h2 : X 2 = (D 2).map (rend nm (nm 2))) (p : Int → Bool) :
    wholeAt X (([0, 1, 2] : List Int).filter p) (([0, 1, 2] : List Int).filter p).length = (cart (opt (([0, 1, 2] : List Int).filter p) 0 (D 0)) (opt (([0, 1, 2] : List Int).filter p) 1 (D 1)) (opt (([0, 1, 2] : List Int).filter p) 2 (D 2))).map (bod nm) := by
  rw [cart_map]
  have rn : ∀ x, rend nm x .nil = "" := fun _ => rfl
  cases e0 : p 0 <;> cases e1 : p 1 <;> cases e2 : p 2 <;>
    simp [List.filter_cons, e0, e1, e2, wholeAt, opt, h0, h1, h2, bod, rn, nil_app, app_nil, List.flatMap_assoc, List.flatMap_map, List.map_flatMap, Function.comp_def, flat_one]
theorem rowName_step (names : List Str) (row : Row) (k : Nat) : rowName names (row ++ [(k : Int)]) = names.getD k "" := by
  unfold rowName
  rw [if_neg (by simp)]
  simp
theorem textsF_docs (names : List Str) (trees : List Tree) : ∀ f row, textsF names trees f row = (docsF trees f row).map (rend (fun k => names.getD k "") (rowName names row))
  | 0, row => rfl
  | f + 1, row => by
    have ih := textsF_docs names trees f
    simp only [textsF, textsAt_held, docsF]
    rw [show heldAt row trees trees.length = heldF row trees from rfl]
    rw [List.map_flatMap, List.map_flatMap]
    refine flat_congr fun ks hks => ?_
    obtain ⟨t, _, _, rfl⟩ := heldF_mem.mp hks
    rw [inner_form, whole_cart (fun k => names.getD k "") (fun k => textsF names trees f (row ++ [k])) (fun k => docsF trees f (row ++ [k]))
      (by rw [ih, show rowName names (row ++ [0]) = names.getD 0 "" from rowName_step names row 0]) (by rw [ih, show rowName names (row ++ [1]) = names.getD 1 "" from rowName_step names row 1]) (by rw [ih, show rowName names (row ++ [2]) = names.getD 2 "" from rowName_step names row 2]), List.map_map]
    apply List.map_congr_left
    intro u hu
    unfold cart at hu
    simp only [List.mem_flatMap, List.mem_map] at hu
    obtain ⟨a, _, b, _, c, _, rfl⟩ := hu
    rfl
end Mine
end

noncomputable section
open PySem PySem.W PyProof.Rows PySem.SeqAt
namespace Mine
open T
noncomputable def Down (t : Tree) : Prop := ∀ (r : Row) (k : Int), r ++ [k] ∈ t → r ∈ t
structure Fine (trees : List Tree) : Prop where
  down : ∀ t ∈ trees, Down t
  low : ∀ t ∈ trees, ∀ r ∈ t, r.length ≤ 3
  root : ∀ t ∈ trees, [] ∈ t
  len : ∀ t ∈ trees, t.length ≤ 4
  n3 : trees.length ≤ 3
theorem toT_not {f : Nat} {t : Tree} {row : Row} (h : row ∉ t) : toT f t row = .nil := by
  cases f with
  | zero => rfl
  | succ f => simp only [toT]; rw [if_neg h]
theorem toT_ne {f : Nat} {t : Tree} {row : Row} (hl : 4 ≤ row.length + f) (lo : ∀ r ∈ t, r.length ≤ 3) : toT f t row ≠ .nil ↔ row ∈ t := by
  constructor
  · intro h; exact Decidable.byContradiction fun q => h (toT_not q)
  · intro h
    cases f with
    | zero => have := lo row h; omega
    | succ f => simp only [toT]; rw [if_pos h]; intro e; cases e
theorem toT_kid {f : Nat} {t : Tree} {row : Row} (hd : Down t) : kid (toT (f + 1) t row) 0 = toT f t (row ++ [0]) ∧ kid (toT (f + 1) t row) 1 = toT f t (row ++ [1]) ∧ kid (toT (f + 1) t row) 2 = toT f t (row ++ [2]) := by
  by_cases h : row ∈ t
  · simp only [toT]; rw [if_pos h]; exact ⟨rfl, rfl, rfl⟩
  · have hk : ∀ k : Int, toT f t (row ++ [k]) = .nil := fun k => toT_not fun q => h (hd _ _ q)
    rw [toT_not h, hk, hk, hk]; exact ⟨rfl, rfl, rfl⟩
theorem inner_mem {row : Row} {t : Tree} {k : Int} (hk : k = 0 ∨ k = 1 ∨ k = 2) : k ∈ innerOf row t ↔ row ++ [k] ∈ t := by
  rw [inner_form, List.mem_filter]
  rcases hk with rfl | rfl | rfl <;> simp
theorem us_kid {trees : List Tree} (fi : Fine trees) {f : Nat} {row : Row} :
    (trees.map (toT (f + 1) · row)).map (kid · 0) = trees.map (toT f · (row ++ [0])) ∧ (trees.map (toT (f + 1) · row)).map (kid · 1) = trees.map (toT f · (row ++ [1])) ∧ (trees.map (toT (f + 1) · row)).map (kid · 2) = trees.map (toT f · (row ++ [2])) := by
  refine ⟨?_, ?_, ?_⟩ <;> rw [List.map_map] <;> apply List.map_congr_left <;> intro t ht
  · exact (toT_kid (fi.down t ht)).1
  · exact (toT_kid (fi.down t ht)).2.1
  · exact (toT_kid (fi.down t ht)).2.2
theorem opt_mem {ks : List Int} {k : Int} {l : List T} {a x : T} {P : Prop} (h1 : k ∈ ks ↔ x ≠ .nil) (h2 : a ∈ l ↔ P) : a ∈ opt ks k l ↔ (a = .nil ∧ x = .nil ∨ x ≠ .nil ∧ P) := by
  unfold opt
  split
  · rename_i h
    have hx := h1.mp h
    rw [h2]
    exact ⟨fun p => .inr ⟨hx, p⟩, fun p => p.elim (fun q => (hx q.2).elim) fun q => q.2⟩
  · rename_i h
    have hx : x = .nil := by
      cases x with
      | nil => rfl
      | node a b c => exact (h (h1.mpr (by intro e; cases e))).elim
    rw [List.mem_singleton]
    exact ⟨fun p => .inl ⟨p, hx⟩, fun p => p.elim (fun q => q.1) fun q => (q.1 hx).elim⟩
theorem mem_docsF {trees : List Tree} (fi : Fine trees) : ∀ f row U, 4 ≤ row.length + f → (U ∈ docsF trees f row ↔ Adm (trees.map (toT f · row)) U)
  | 0, row, U, hl => by
    constructor
    · intro h; cases h
    · intro h
      cases U with
      | nil => exact h.elim
      | node a b c =>
        obtain ⟨x, y, z, hm, _⟩ := h
        obtain ⟨t, ht, e⟩ := List.mem_map.mp hm
        cases e
  | f + 1, row, U, hl => by
    have ih := fun (k : Int) U => mem_docsF fi f (row ++ [k]) U (by rw [List.length_append]; simp; omega)
    obtain ⟨u0, u1, u2⟩ := us_kid fi (f := f) (row := row)
    have key : ∀ t ∈ trees, ∀ (k : Int), k = 0 ∨ k = 1 ∨ k = 2 → ∀ a, a ∈ opt (innerOf row t) k (docsF trees f (row ++ [k])) ↔ (a = .nil ∧ toT f t (row ++ [k]) = .nil ∨ toT f t (row ++ [k]) ≠ .nil ∧ Adm (trees.map (toT f · (row ++ [k]))) a) := fun t ht k hk a =>
      opt_mem (by rw [toT_ne (by rw [List.length_append]; simp; omega) (fi.low t ht)]; exact inner_mem hk) (ih k a)
    constructor
    · intro h
      simp only [docsF, List.mem_flatMap] at h
      obtain ⟨ks, hks, h⟩ := h
      obtain ⟨t, ht, hr, rfl⟩ := heldF_mem.mp hks
      unfold cart at h
      simp only [List.mem_flatMap, List.mem_map] at h
      obtain ⟨a, ha, b, hb, c, hc, rfl⟩ := h
      refine ⟨toT f t (row ++ [0]), toT f t (row ++ [1]), toT f t (row ++ [2]), List.mem_map.mpr ⟨t, ht, by simp only [toT]; rw [if_pos hr]⟩, ?_, ?_, ?_⟩
      · rw [u0]; exact (key t ht 0 (.inl rfl) a).mp ha
      · rw [u1]; exact (key t ht 1 (.inr (.inl rfl)) b).mp hb
      · rw [u2]; exact (key t ht 2 (.inr (.inr rfl)) c).mp hc
    · intro h
      cases U with
      | nil => exact h.elim
      | node a b c =>
        obtain ⟨x, y, z, hm, ha, hb, hc⟩ := h
        obtain ⟨t, ht, e⟩ := List.mem_map.mp hm
        have hr : row ∈ t := Decidable.byContradiction fun q => by rw [toT_not q] at e; cases e
        simp only [toT] at e
        rw [if_pos hr] at e
        cases e
        rw [u0] at ha
        rw [u1] at hb
        rw [u2] at hc
        simp only [docsF, List.mem_flatMap]
        refine ⟨_, heldF_mem.mpr ⟨t, ht, hr, rfl⟩, ?_⟩
        unfold cart
        simp only [List.mem_flatMap, List.mem_map]
        exact ⟨a, (key t ht 0 (.inl rfl) a).mpr ha, b, (key t ht 1 (.inr (.inl rfl)) b).mpr hb, c, (key t ht 2 (.inr (.inr rfl)) c).mpr hc, rfl⟩
theorem docsF_ne {trees : List Tree} {f : Nat} {row : Row} {U : T} (h : U ∈ docsF trees f row) : U ≠ .nil := by
  cases f with
  | zero => cases h
  | succ f =>
    simp only [docsF, List.mem_flatMap, cart, List.mem_map] at h
    obtain ⟨ks, _, a, _, b, _, c, _, rfl⟩ := h
    intro e; cases e
theorem cart_nodup {A B C : List T} (hA : A.Nodup) (hB : B.Nodup) (hC : C.Nodup) : (cart A B C).Nodup := by
  unfold cart List.Nodup
  rw [List.pairwise_flatMap]
  refine ⟨fun a _ => ?_, hA.imp fun {a a'} hne x hx y hy e => ?_⟩
  · rw [List.pairwise_flatMap]
    refine ⟨fun b _ => ?_, hB.imp fun {b b'} hne x hx y hy e => ?_⟩
    · rw [List.pairwise_map]
      exact hC.imp fun {c c'} hne e => by injection e with _ _ e; exact hne e
    · obtain ⟨c, _, rfl⟩ := List.mem_map.mp hx
      obtain ⟨c', _, rfl⟩ := List.mem_map.mp hy
      injection e with _ e _; exact hne e
  · simp only [List.mem_flatMap, List.mem_map] at hx hy
    obtain ⟨b, _, c, _, rfl⟩ := hx
    obtain ⟨b', _, c', _, rfl⟩ := hy
    injection e with e _ _; exact hne e
theorem opt_nodup {ks : List Int} {k : Int} {l : List T} (h : l.Nodup) : (opt ks k l).Nodup := by
  unfold opt; split
  · exact h
  · simp
theorem opt_nil {ks : List Int} {k : Int} {l : List T} {a : T} (hl : ∀ u ∈ l, u ≠ .nil) (h : a ∈ opt ks k l) : k ∈ ks ↔ a ≠ .nil := by
  unfold opt at h
  split at h
  · rename_i hk; exact ⟨fun _ => hl a h, fun _ => hk⟩
  · rename_i hk; rw [List.mem_singleton] at h; exact ⟨fun q => (hk q).elim, fun q => (q h).elim⟩
theorem inner_ext {row : Row} {t t' : Tree} (h0 : (0 : Int) ∈ innerOf row t ↔ (0 : Int) ∈ innerOf row t') (h1 : (1 : Int) ∈ innerOf row t ↔ (1 : Int) ∈ innerOf row t') (h2 : (2 : Int) ∈ innerOf row t ↔ (2 : Int) ∈ innerOf row t') : innerOf row t = innerOf row t' := by
  rw [inner_mem (.inl rfl), inner_mem (.inl rfl)] at h0
  rw [inner_mem (.inr (.inl rfl)), inner_mem (.inr (.inl rfl))] at h1
  rw [inner_mem (.inr (.inr rfl)), inner_mem (.inr (.inr rfl))] at h2
  rw [inner_form, inner_form]
  apply List.filter_congr
  intro k hk
  simp only [List.mem_cons, List.not_mem_nil, or_false] at hk
  rcases hk with rfl | rfl | rfl <;> simp [h0, h1, h2]
theorem docsF_nodup (trees : List Tree) : ∀ f row, (docsF trees f row).Nodup
  | 0, row => by simp [docsF]
  | f + 1, row => by
    have ih := docsF_nodup trees f
    have ne := fun (k : Int) (u : T) (hu : u ∈ docsF trees f (row ++ [k])) => docsF_ne hu
    simp only [docsF]
    unfold List.Nodup
    rw [List.pairwise_flatMap]
    refine ⟨fun ks _ => cart_nodup (opt_nodup (ih _)) (opt_nodup (ih _)) (opt_nodup (ih _)), (List.Pairwise.and_mem.mp (held_nodup row trees trees.length)).imp fun {ks ks'} hne x hx y hy e => ?_⟩
    obtain ⟨m1, m2, hne⟩ := hne
    obtain ⟨t, _, _, rfl⟩ := heldF_mem.mp m1
    obtain ⟨t', _, _, rfl⟩ := heldF_mem.mp m2
    simp only [cart, List.mem_flatMap, List.mem_map] at hx hy
    obtain ⟨a, ha, b, hb, c, hc, rfl⟩ := hx
    obtain ⟨a', ha', b', hb', c', hc', rfl⟩ := hy
    injection e with e0 e1 e2
    subst e0; subst e1; subst e2
    exact hne (inner_ext ((opt_nil (ne 0) ha).trans (opt_nil (ne 0) ha').symm) ((opt_nil (ne 1) hb).trans (opt_nil (ne 1) hb').symm) ((opt_nil (ne 2) hc).trans (opt_nil (ne 2) hc').symm))
end Mine
end

noncomputable section
open PySem PySem.W PyProof.Rows PySem.SeqAt
namespace Mine
open T
/-! how many -/
noncomputable def preB (r s : Row) : Bool := decide (r <+: s)
theorem pre_step {row r : Row} {k : Int} (h : row ++ [k] <+: r) : row <+: r ∧ r ≠ row ∧ r.getD row.length 0 = k := by
  obtain ⟨s, rfl⟩ := h
  refine ⟨⟨[k] ++ s, by simp⟩, fun e => ?_, by simp⟩
  have := congrArg List.length e
  simp at this
theorem point (row r : Row) : (if decide (r = row) = true then 1 else 0) + (if preB (row ++ [0]) r = true then 1 else 0) + (if preB (row ++ [1]) r = true then 1 else 0) + (if preB (row ++ [2]) r = true then 1 else 0) ≤ (if preB row r = true then 1 else 0 : Nat) := by
  have p := fun k => @pre_step row r k
  unfold preB
  simp only [decide_eq_true_eq]
  by_cases h : row <+: r
  · rw [if_pos h]
    by_cases e : r = row
    · rw [if_pos e, if_neg (fun q => (p 0 q).2.1 e), if_neg (fun q => (p 1 q).2.1 e), if_neg (fun q => (p 2 q).2.1 e)]; omega
    · rw [if_neg e]
      by_cases h0 : row ++ [0] <+: r
      · have e0 := (p 0 h0).2.2
        rw [if_pos h0, if_neg (fun q => by have := (p 1 q).2.2; omega), if_neg (fun q => by have := (p 2 q).2.2; omega)]; omega
      · rw [if_neg h0]
        by_cases h1 : row ++ [1] <+: r
        · have e1 := (p 1 h1).2.2
          rw [if_pos h1, if_neg (fun q => by have := (p 2 q).2.2; omega)]; omega
        · rw [if_neg h1]; split <;> omega
  · rw [if_neg h, if_neg (fun e : r = row => h (by rw [e]; exact List.prefix_refl _)), if_neg (fun q => h (p 0 q).1), if_neg (fun q => h (p 1 q).1), if_neg (fun q => h (p 2 q).1)]; omega
theorem points (row : Row) : ∀ t : Tree, t.countP (fun r => decide (r = row)) + t.countP (preB (row ++ [0])) + t.countP (preB (row ++ [1])) + t.countP (preB (row ++ [2])) ≤ t.countP (preB row)
  | [] => Nat.le_refl _
  | r :: t => by
    have ih := points row t
    have p := point row r
    simp only [List.countP_cons]
    omega
theorem toT_size : ∀ (f : Nat) (t : Tree) (row : Row), size (toT f t row) ≤ t.countP (preB row)
  | 0, t, row => Nat.zero_le _
  | f + 1, t, row => by
    by_cases h : row ∈ t
    · simp only [toT]
      rw [if_pos h]
      have p := points row t
      have : 0 < t.countP (fun r => decide (r = row)) := List.countP_pos_iff.mpr ⟨row, h, by simp⟩
      have h0 := toT_size f t (row ++ [0])
      have h1 := toT_size f t (row ++ [1])
      have h2 := toT_size f t (row ++ [2])
      simp only [size]; omega
    · rw [toT_not h]; exact Nat.zero_le _
theorem sizes_le {us : List T} {m : Nat} (h : ∀ u ∈ us, size u ≤ m) : sizes us ≤ m * us.length := by
  induction us with
  | nil => exact Nat.zero_le _
  | cons u us ih =>
    have h1 := ih fun v hv => h v (List.mem_cons_of_mem _ hv)
    have h2 := h u List.mem_cons_self
    simp only [sizes, List.map_cons, List.sum_cons, List.length_cons, Nat.mul_add] at h1 ⊢
    omega
noncomputable def MM3 (trees : List Tree) (f : Nat) (row : Row) : Nat := sizes (trees.map (toT f · row))
theorem count_nodes (trees : List Tree) (f : Nat) (row : Row) : (trees.map (toT (f + 1) · row)).countP isNode = trees.countP (fun t => decide (row ∈ t)) := by
  rw [List.countP_map]
  apply List.countP_congr
  intro t _
  by_cases h : row ∈ t
  · simp [toT, h, isNode]
  · simp [toT, h, isNode]
theorem MM3_step {trees : List Tree} (fi : Fine trees) (f : Nat) (row : Row) : MM3 trees f (row ++ [0]) + MM3 trees f (row ++ [1]) + MM3 trees f (row ++ [2]) + trees.countP (fun t => decide (row ∈ t)) = MM3 trees (f + 1) row := by
  obtain ⟨u0, u1, u2⟩ := us_kid fi (f := f) (row := row)
  unfold MM3
  rw [← u0, ← u1, ← u2, ← count_nodes trees f row]
  exact sizes_kids _
theorem cart_len (A B C : List T) : (cart A B C).length = A.length * (B.length * C.length) := by
  have e1 : ∀ (a : T) (B : List T), (B.flatMap fun b => C.map fun c => T.node a b c).length = B.length * C.length := fun a B => by
    induction B with
    | nil => simp
    | cons b B ih => rw [List.flatMap_cons, List.length_append, ih, List.length_map, List.length_cons, Nat.add_mul]; omega
  unfold cart
  induction A with
  | nil => simp
  | cons a A ih => rw [List.flatMap_cons, List.length_append, ih, e1, List.length_cons, Nat.add_mul]; omega
noncomputable def optM (ks : List Int) (k : Int) (m : Nat) : Nat := if k ∈ ks then m else 0
theorem opt_cube {ks : List Int} {k : Int} {l : List T} {m : Nat} (h : l.length ^ 3 ≤ 3 ^ m) : (opt ks k l).length ^ 3 ≤ 3 ^ optM ks k m := by
  unfold opt optM
  split
  · exact h
  · exact Nat.le_refl _
theorem cart_cube {A B C : List T} {x y z : Nat} (hA : A.length ^ 3 ≤ 3 ^ x) (hB : B.length ^ 3 ≤ 3 ^ y) (hC : C.length ^ 3 ≤ 3 ^ z) : (cart A B C).length ^ 3 ≤ 3 ^ (x + y + z) := by
  rw [cart_len, Nat.mul_pow, Nat.mul_pow, Nat.pow_add, Nat.pow_add, Nat.mul_assoc]
  exact Nat.mul_le_mul hA (Nat.mul_le_mul hB hC)
theorem max_of {B : Nat} : ∀ l : List Nat, (∀ x ∈ l, x ^ 3 ≤ B) → ∃ m, m ^ 3 ≤ B ∧ ∀ x ∈ l, x ≤ m
  | [], _ => ⟨0, Nat.zero_le _, by simp⟩
  | a :: l, h => by
    obtain ⟨m, h1, h2⟩ := max_of l fun x hx => h x (List.mem_cons_of_mem _ hx)
    by_cases c : a ≤ m
    · exact ⟨m, h1, fun x hx => (List.mem_cons.mp hx).elim (fun e => e ▸ c) (h2 x)⟩
    · exact ⟨a, h a List.mem_cons_self, fun x hx => (List.mem_cons.mp hx).elim (fun e => Nat.le_of_eq e) fun hx => by have := h2 x hx; omega⟩
theorem sum_le_of {m : Nat} : ∀ l : List Nat, (∀ x ∈ l, x ≤ m) → l.sum ≤ l.length * m
  | [], _ => Nat.zero_le _
  | a :: l, h => by
    have := sum_le_of l fun x hx => h x (List.mem_cons_of_mem _ hx)
    have := h a List.mem_cons_self
    rw [List.sum_cons, List.length_cons, Nat.add_mul, Nat.one_mul]; omega
theorem cube_sum {B d : Nat} {l : List Nat} (h : ∀ x ∈ l, x ^ 3 ≤ B) (hl : l.length ≤ d) (hd : d ≤ 3) : l.sum ^ 3 ≤ 3 ^ d * B := by
  obtain ⟨m, h1, h2⟩ := max_of l h
  have h3 : l.sum ≤ d * m := Nat.le_trans (sum_le_of l h2) (Nat.mul_le_mul_right _ hl)
  refine Nat.le_trans (Nat.pow_le_pow_left h3 3) ?_
  rw [Nat.mul_pow]
  refine Nat.mul_le_mul ?_ h1
  rcases le3 hd with rfl | rfl | rfl | rfl <;> decide
theorem optM_le (ks : List Int) (k : Int) (m : Nat) : optM ks k m ≤ m := by unfold optM; split <;> omega
theorem docs_len (trees : List Tree) (f : Nat) (row : Row) : (docsF trees (f + 1) row).length = ((heldF row trees).map fun ks => (cart (opt ks 0 (docsF trees f (row ++ [0]))) (opt ks 1 (docsF trees f (row ++ [1]))) (opt ks 2 (docsF trees f (row ++ [2])))).length).sum := by
  simp only [docsF]
  rw [List.length_flatMap]
theorem docs_cube {trees : List Tree} (fi : Fine trees) : ∀ f row, (docsF trees f row).length ^ 3 ≤ 3 ^ MM3 trees f row
  | 0, row => Nat.zero_le _
  | f + 1, row => by
    have ih := docs_cube fi f
    rw [docs_len, ← MM3_step fi f row, Nat.pow_add, Nat.mul_comm]
    refine cube_sum (fun x hx => ?_) (by rw [List.length_map]; exact heldF_len row trees) (Nat.le_trans List.countP_le_length fi.n3)
    obtain ⟨ks, _, rfl⟩ := List.mem_map.mp hx
    refine Nat.le_trans (cart_cube (opt_cube (ih _)) (opt_cube (ih _)) (opt_cube (ih _))) (Nat.pow_le_pow_right (by decide) ?_)
    have := optM_le ks 0 (MM3 trees f (row ++ [0]))
    have := optM_le ks 1 (MM3 trees f (row ++ [1]))
    have := optM_le ks 2 (MM3 trees f (row ++ [2]))
    omega
theorem cube_27 {x s : Nat} (h : x ^ 3 ≤ 3 ^ s) (hs : s ≤ 9) : x ≤ 27 := by
  apply Decidable.byContradiction
  intro q
  have h1 : 28 ^ 3 ≤ x ^ 3 := Nat.pow_le_pow_left (by omega) 3
  have h2 : 3 ^ s ≤ 3 ^ 9 := Nat.pow_le_pow_right (by decide) hs
  have h3 : (28 : Nat) ^ 3 = 21952 := by decide
  have h4 : (3 : Nat) ^ 9 = 19683 := by decide
  omega
theorem cube_18 {x s : Nat} (h : x ^ 3 ≤ 3 ^ s) (hs : s ≤ 8) : x ≤ 18 := by
  apply Decidable.byContradiction
  intro q
  have h1 : 19 ^ 3 ≤ x ^ 3 := Nat.pow_le_pow_left (by omega) 3
  have h2 : 3 ^ s ≤ 3 ^ 8 := Nat.pow_le_pow_right (by decide) hs
  have h3 : (19 : Nat) ^ 3 = 6859 := by decide
  have h4 : (3 : Nat) ^ 8 = 6561 := by decide
  omega
theorem sum_9 {α : Type} (g : α → Nat) (F : α → Prop) : ∀ l : List α, l.Nodup → (∀ a ∈ l, g a ≤ 27) → (∀ a ∈ l, ¬ F a → g a ≤ 18) → (∀ a ∈ l, ∀ b ∈ l, F a → F b → a = b) → (l.map g).sum ≤ 9 + 18 * l.length
  | [], _, _, _, _ => Nat.zero_le _
  | a :: l, hn, h27, h18, hF => by
    rw [List.nodup_cons] at hn
    rw [List.map_cons, List.sum_cons, List.length_cons]
    by_cases fa : F a
    · have h1 := h27 a List.mem_cons_self
      have h2 := sum_le_of (m := 18) (l.map g) fun x hx => by
        obtain ⟨b, hb, rfl⟩ := List.mem_map.mp hx
        exact h18 b (List.mem_cons_of_mem _ hb) fun fb => hn.1 (hF a List.mem_cons_self b (List.mem_cons_of_mem _ hb) fa fb ▸ hb)
      rw [List.length_map] at h2
      clear h27 h18 hF; omega
    · have h1 := h18 a List.mem_cons_self fa
      have h2 := sum_9 g F l hn.2 (fun b hb => h27 b (List.mem_cons_of_mem _ hb)) (fun b hb => h18 b (List.mem_cons_of_mem _ hb)) fun b hb c hc => hF b (List.mem_cons_of_mem _ hb) c (List.mem_cons_of_mem _ hc)
      clear h27 h18 hF; omega
theorem sum_63 {α : Type} (g : α → Nat) (F : α → Prop) (l : List α) (hn : l.Nodup) (h3 : l.length ≤ 3) (h27 : ∀ a ∈ l, g a ≤ 27) (h18 : ∀ a ∈ l, ¬ F a → g a ≤ 18) (hF : ∀ a ∈ l, ∀ b ∈ l, F a → F b → a = b) : (l.map g).sum ≤ 63 := by
  have := sum_9 g F l hn h27 h18 hF
  omega
theorem docs_63 {trees : List Tree} (fi : Fine trees) : (docsF trees 4 []).length < 64 := by
  have h := docs_cube fi 3
  have st := MM3_step fi 3 []
  have hc : trees.countP (fun t => decide (([] : Row) ∈ t)) = trees.length := by
    rw [List.countP_eq_length]; intro t ht; simpa using fi.root t ht
  have tot : MM3 trees 4 [] ≤ 4 * trees.length := by
    have := sizes_le (us := trees.map (toT 4 · [])) (m := 4) fun u hu => by
      obtain ⟨t, ht, rfl⟩ := List.mem_map.mp hu
      exact Nat.le_trans (toT_size 4 t []) (Nat.le_trans List.countP_le_length (fi.len t ht))
    rwa [List.length_map] at this
  rw [hc] at st
  have n3 := fi.n3
  have all9 : MM3 trees 3 ([] ++ [0]) + MM3 trees 3 ([] ++ [1]) + MM3 trees 3 ([] ++ [2]) ≤ 9 := by
    have : MM3 trees (3 + 1) [] = MM3 trees 4 [] := rfl
    omega
  have cub := fun ks => cart_cube (opt_cube (ks := ks) (k := 0) (h ([] ++ [0]))) (opt_cube (ks := ks) (k := 1) (h ([] ++ [1]))) (opt_cube (ks := ks) (k := 2) (h ([] ++ [2])))
  have l0 := fun ks => optM_le ks 0 (MM3 trees 3 ([] ++ [0]))
  have l1 := fun ks => optM_le ks 1 (MM3 trees 3 ([] ++ [1]))
  have l2 := fun ks => optM_le ks 2 (MM3 trees 3 ([] ++ [2]))
  have z : ∀ ks (k : Int) m, k ∉ ks → optM ks k m = 0 := fun ks k m q => by unfold optM; rw [if_neg q]
  have pos : ∀ t ∈ trees, ∀ (k : Int), k = 0 ∨ k = 1 ∨ k = 2 → k ∈ innerOf [] t → 0 < MM3 trees 3 ([] ++ [k]) := fun t ht k hk hm => by
    rw [inner_mem hk] at hm
    have : toT 3 t ([] ++ [k]) ≠ .nil := (toT_ne (by simp) (fi.low t ht)).mpr hm
    have hs : 0 < size (toT 3 t ([] ++ [k])) := by
      cases e : toT 3 t ([] ++ [k]) with
      | nil => exact (this e).elim
      | node a b c => simp only [size]; omega
    have : ∀ us : List T, toT 3 t ([] ++ [k]) ∈ us → size (toT 3 t ([] ++ [k])) ≤ sizes us := fun us => by
      induction us with
      | nil => intro q; cases q
      | cons u us ih =>
        intro q
        simp only [sizes, List.map_cons, List.sum_cons] at ih ⊢
        rcases List.mem_cons.mp q with q | q
        · rw [← q]; omega
        · have := ih q; omega
    have := this (trees.map (toT 3 · ([] ++ [k]))) (List.mem_map.mpr ⟨t, ht, rfl⟩)
    unfold MM3; omega
  have : (docsF trees 4 []).length ≤ 63 := by
    rw [docs_len]
    refine sum_63 _ (fun ks => (0 < MM3 trees 3 ([] ++ [0]) → (0 : Int) ∈ ks) ∧ (0 < MM3 trees 3 ([] ++ [1]) → (1 : Int) ∈ ks) ∧ (0 < MM3 trees 3 ([] ++ [2]) → (2 : Int) ∈ ks)) (heldF [] trees) (held_nodup _ _ _) ?_ ?_ ?_ ?_
    · have := heldF_len [] trees
      omega
    · intro ks _
      have := l0 ks; have := l1 ks; have := l2 ks
      exact cube_27 (cub ks) (by omega)
    · intro ks _ hf
      have q0 := l0 ks; have q1 := l1 ks; have q2 := l2 ks
      refine cube_18 (cub ks) ?_
      by_cases m0 : 0 < MM3 trees 3 ([] ++ [0]) → (0 : Int) ∈ ks
      · by_cases m1 : 0 < MM3 trees 3 ([] ++ [1]) → (1 : Int) ∈ ks
        · have m2 : ¬ (0 < MM3 trees 3 ([] ++ [2]) → (2 : Int) ∈ ks) := fun q => hf ⟨m0, m1, q⟩
          rw [Classical.not_imp] at m2
          have := z ks 2 (MM3 trees 3 ([] ++ [2])) m2.2
          omega
        · rw [Classical.not_imp] at m1
          have := z ks 1 (MM3 trees 3 ([] ++ [1])) m1.2
          omega
      · rw [Classical.not_imp] at m0
        have := z ks 0 (MM3 trees 3 ([] ++ [0])) m0.2
        omega
    · intro ks hk ks' hk' f f'
      obtain ⟨t, ht, _, rfl⟩ := heldF_mem.mp hk
      obtain ⟨t', ht', _, rfl⟩ := heldF_mem.mp hk'
      exact inner_ext ⟨fun q => f'.1 (pos t ht 0 (.inl rfl) q), fun q => f.1 (pos t' ht' 0 (.inl rfl) q)⟩ ⟨fun q => f'.2.1 (pos t ht 1 (.inr (.inl rfl)) q), fun q => f.2.1 (pos t' ht' 1 (.inr (.inl rfl)) q)⟩
        ⟨fun q => f'.2.2 (pos t ht 2 (.inr (.inr rfl)) q), fun q => f.2.2 (pos t' ht' 2 (.inr (.inr rfl)) q)⟩
  omega
end Mine
end

noncomputable section
open PySem PySem.W PyProof.Rows PySem.SeqAt
namespace Mine
open T
/-! the pieces of a text -/
noncomputable def free (c : Nat) (x : Str) : Prop := c ∉ x.cps.toList
theorem cut_free {c : Nat} : ∀ {x y r s : List Nat}, c ∉ x → c ∉ y → x ++ c :: r = y ++ c :: s → x = y ∧ r = s
  | [], [], r, s, _, _, e => by injection e with _ e; exact ⟨rfl, e⟩
  | [], b :: y, r, s, _, hy, e => by injection e with e _; exact (hy (e ▸ List.mem_cons_self)).elim
  | a :: x, [], r, s, hx, _, e => by injection e with e _; exact (hx (e ▸ List.mem_cons_self)).elim
  | a :: x, b :: y, r, s, hx, hy, e => by
    injection e with e1 e2
    obtain ⟨h1, h2⟩ := cut_free (fun q => hx (List.mem_cons_of_mem _ q)) (fun q => hy (List.mem_cons_of_mem _ q)) e2
    exact ⟨by rw [e1, h1], h2⟩
theorem app_list (a b : Str) : (a ++ b).cps.toList = a.cps.toList ++ b.cps.toList := by
  show (a.cps ++ b.cps).toList = _
  simp
theorem join_cons (sep x y : Str) (l : List Str) : Str.join sep (x :: y :: l) = x ++ sep ++ Str.join sep (y :: l) := rfl
theorem join_inj {c : Nat} : ∀ {A B : List Str}, A ≠ [] → B ≠ [] → (∀ p ∈ A, free c p) → (∀ p ∈ B, free c p) → Str.join ⟨#[c]⟩ A = Str.join ⟨#[c]⟩ B → A = B
  | [], _, h, _, _, _, _ => (h rfl).elim
  | _ :: _, [], _, h, _, _, _ => (h rfl).elim
  | [a], [b], _, _, _, _, e => by rw [show a = b from e]
  | [a], b :: b' :: B, _, _, hA, _, e => by
    have e := congrArg (·.cps.toList) e
    rw [join_cons] at e
    simp only [app_list] at e
    refine (hA a (by simp) ?_).elim
    rw [show a.cps.toList = _ from e]; simp
  | a :: a' :: A, [b], _, _, _, hB, e => by
    have e := congrArg (·.cps.toList) e
    rw [join_cons] at e
    simp only [app_list] at e
    refine (hB b (by simp) ?_).elim
    rw [show b.cps.toList = _ from e.symm]; simp
  | a :: a' :: A, b :: b' :: B, _, _, hA, hB, e => by
    have e := congrArg (·.cps.toList) e
    rw [join_cons, join_cons] at e
    simp only [app_list, List.append_assoc, List.singleton_append] at e
    obtain ⟨h1, h2⟩ := cut_free (hA a (by simp)) (hB b (by simp)) e
    rw [str_ext h1, join_inj (A := a' :: A) (B := b' :: B) (by simp) (by simp) (fun p hp => hA p (List.mem_cons_of_mem _ hp)) (fun p hp => hB p (List.mem_cons_of_mem _ hp)) (str_ext h2)]
theorem split_eq {c : Nat} {x : Str} {ps : List Str} (hn : ps ≠ []) (hf : ∀ p ∈ ps, free c p) (e : Str.join ⟨#[c]⟩ ps = x) : Txt.split x ⟨#[c]⟩ = ps := by
  refine join_inj ?_ hn (StrLaws.split_free x c) hf ((StrLaws.join_split x ⟨#[c]⟩).trans e.symm)
  have := split_pos x ⟨#[c]⟩
  intro q; rw [q] at this; simp at this
theorem free_app {c : Nat} {a b : Str} (ha : free c a) (hb : free c b) : free c (a ++ b) := by
  unfold free; rw [app_list, List.mem_append]; exact fun q => q.elim ha hb
noncomputable def rep : Nat → Str
  | 0 => ""
  | n + 1 => "</d>" ++ rep n
theorem rep_len : ∀ j, (rep j).length = 4 * j
  | 0 => rfl
  | j + 1 => by
    have e : (Str.ofString "</d>").length = 4 := rfl
    rw [rep, str_add_length, rep_len j, e]; omega
theorem free_e : free 34 (Str.ofString "") := by unfold free; decide +kernel
theorem free_c : free 34 (Str.ofString "</d>") := by unfold free; decide +kernel
theorem free_o : free 34 (Str.ofString "<d n=") := by unfold free; decide +kernel
theorem free_g : free 34 (Str.ofString ">") := by unfold free; decide +kernel
theorem rep_free : ∀ j, free 34 (rep j)
  | 0 => free_e
  | j + 1 => free_app free_c (rep_free j)
noncomputable abbrev Grp := List (Str × Nat)
noncomputable def gtx : Grp → Str
  | [] => ""
  | (x, j) :: r => "<d n=\"" ++ (x ++ ("\">" ++ (rep j ++ gtx r)))
noncomputable def gend : Grp → Str
  | [] => ""
  | _ :: _ => "<d n="
noncomputable def gpcs : Grp → List Str
  | [] => []
  | (x, j) :: r => x :: (Str.ofString ">" ++ rep j ++ gend r) :: gpcs r
theorem join_head (sep u v : Str) (l : List Str) : Str.join sep ((u ++ v) :: l) = u ++ Str.join sep (v :: l) := by
  cases l with
  | nil => rfl
  | cons a l => rw [join_cons, join_cons]; simp only [app_assoc]
theorem gpcs_join : ∀ (g : Grp), g ≠ [] → Str.join (Str.ofString "\"") (Str.ofString "<d n=" :: gpcs g) = gtx g
  | [], h => (h rfl).elim
  | [(x, j)], _ => by
    have e1 : Str.ofString "<d n=" ++ Str.ofString "\"" = Str.ofString "<d n=\"" := by decide +kernel
    have e2 : Str.ofString "\"" ++ Str.ofString ">" = Str.ofString "\">" := by decide +kernel
    simp only [gpcs, gend, gtx, join_cons]
    show _ ++ (_ ++ _ ++ (Str.ofString ">" ++ rep j ++ Str.ofString "")) = _
    rw [← e1, ← e2]; simp only [app_assoc]
  | (x, j) :: q :: r, _ => by
    have e1 : Str.ofString "<d n=" ++ Str.ofString "\"" = Str.ofString "<d n=\"" := by decide +kernel
    have e2 : Str.ofString "\"" ++ Str.ofString ">" = Str.ofString "\">" := by decide +kernel
    have ih := gpcs_join (q :: r) (by simp)
    show Str.join _ (_ :: x :: (Str.ofString ">" ++ rep j ++ Str.ofString "<d n=") :: gpcs (q :: r)) = _
    rw [join_cons, join_cons, join_head, ih]
    show _ = Str.ofString "<d n=\"" ++ (x ++ (Str.ofString "\">" ++ (rep j ++ gtx (q :: r))))
    rw [← e1, ← e2]; simp only [app_assoc]
structure Good (g : Grp) : Prop where
  fr : ∀ p ∈ g, free 34 p.1
  j4 : ∀ p ∈ g, p.2 ≤ 4
theorem gpcs_free : ∀ {g : Grp}, Good g → ∀ p ∈ gpcs g, free 34 p
  | [], _, p, h => by cases h
  | (x, j) :: r, k, p, h => by
    have hg : free 34 (gend r) := match r with
      | [] => free_e
      | _ :: _ => free_o
    rcases List.mem_cons.mp h with rfl | h
    · exact k.fr _ (List.mem_cons_self)
    · rcases List.mem_cons.mp h with rfl | h
      · exact free_app (free_app free_g (rep_free j)) hg
      · exact gpcs_free ⟨fun q hq => k.fr q (List.mem_cons_of_mem _ hq), fun q hq => k.j4 q (List.mem_cons_of_mem _ hq)⟩ p h
theorem split_gtx {g : Grp} (hn : g ≠ []) (k : Good g) : Txt.split (gtx g) "\"" = Str.ofString "<d n=" :: gpcs g := by
  have e : Str.ofString "\"" = ⟨#[34]⟩ := by decide +kernel
  rw [e]
  refine split_eq (by simp) (fun p hp => ?_) (by rw [← e]; exact gpcs_join g hn)
  rcases List.mem_cons.mp hp with rfl | hp
  · exact free_o
  · exact gpcs_free k p hp
theorem good_nil : Good [] := ⟨(fun _ h => absurd h List.not_mem_nil), (fun _ h => absurd h List.not_mem_nil)⟩

/-! the machine -/
section
variable (known : List (Str × Str))
noncomputable def vopen (x : Str) (s : SSt) : SSt := ⟨s.spans, aset s.begins (pyJoin s.path ((known.lookup x).getD "?")) s.pos, pyJoin s.path ((known.lookup x).getD "?"), s.pos + (x.length + 8)⟩
noncomputable def vclose (s : SSt) : SSt := ⟨aset s.spans s.path ((s.begins.lookup s.path).getD 0, s.pos + 4), s.begins, pyDirname s.path, s.pos + 4⟩
noncomputable def vcl : Nat → SSt → SSt
  | 0, s => s
  | j + 1, s => vcl j (vclose s)
noncomputable def vgs : Grp → SSt → SSt
  | [], s => s
  | (x, j) :: r, s => vgs r (vcl j (vopen known x s))
theorem vcl_succ : ∀ j s, vcl (j + 1) s = vclose (vcl j s)
  | 0, s => rfl
  | j + 1, s => by rw [vcl, vcl_succ j]; rfl
theorem closeAt_vcl (s : SSt) : ∀ j, closeAt s.begins (s.pos - 1) s.spans s.path j = ((vcl j s).spans, (vcl j s).path) ∧ (vcl j s).begins = s.begins ∧ (vcl j s).pos = s.pos + 4 * (j : Int)
  | 0 => ⟨rfl, rfl, by simp [vcl]⟩
  | j + 1 => by
    obtain ⟨h1, h2, h3⟩ := closeAt_vcl s j
    rw [vcl_succ]
    refine ⟨?_, h2, ?_⟩
    · simp only [closeAt, h1, vclose, h2, h3]
      have : s.pos - 1 + 5 + 4 * (j : Int) = s.pos + 4 * (j : Int) + 4 := by omega
      rw [this]
    · simp only [vclose, h3]; omega
noncomputable def runP (k : Nat) : List Str → SSt → SSt
  | [], s => s
  | p :: ps, s => runP (k + 1) ps (pieceStep known k p s)
theorem runP_app (b : List Str) : ∀ (a : List Str) (k : Nat) (s : SSt), runP known k (a ++ b) s = runP known (k + a.length) b (runP known k a s)
  | [], k, s => rfl
  | p :: a, k, s => by
    show runP known (k + 1) (a ++ b) _ = _
    rw [runP_app b a, List.length_cons]
    have : k + 1 + a.length = k + (a.length + 1) := by omega
    rw [this]; rfl
theorem spanAt_run (ps : List Str) : ∀ i, i ≤ ps.length → spanAt known ps i = runP known 0 (ps.take i) ⟨[], [], "", 0⟩
  | 0, _ => rfl
  | i + 1, h => by
    rw [Mine.take_succ_getD ps "" (by omega : i < ps.length), runP_app, ← spanAt_run ps i (by omega), List.length_take, Nat.min_eq_left (by omega), Nat.zero_add]
    rfl
theorem closes_rep (j : Nat) (hj : j ≤ 4) (r : Grp) : closes (Str.ofString ">" ++ rep j ++ gend r) = j := by
  cases r with
  | nil =>
    rcases (by omega : j = 0 ∨ j = 1 ∨ j = 2 ∨ j = 3 ∨ j = 4) with rfl | rfl | rfl | rfl | rfl <;> decide +kernel
  | cons q r =>
    show closes (Str.ofString ">" ++ rep j ++ Str.ofString "<d n=") = j
    rcases (by omega : j = 0 ∨ j = 1 ∨ j = 2 ∨ j = 3 ∨ j = 4) with rfl | rfl | rfl | rfl | rfl <;> decide +kernel
theorem run_vgs : ∀ (g : Grp), Good g → ∀ (s R : SSt) (k : Nat), k % 2 = 1 → R.spans = s.spans → R.begins = s.begins → R.path = s.path → R.pos = s.pos + 6 → (runP known k (gpcs g) R).spans = (vgs known g s).spans
  | [], _, s, R, k, _, h, _, _, _ => h
  | (x, j) :: r, gd, s, R, k, hk, h1, h2, h3, h4 => by
    have hj := gd.j4 _ List.mem_cons_self
    have gd' : Good r := ⟨fun q hq => gd.fr q (List.mem_cons_of_mem _ hq), fun q hq => gd.j4 q (List.mem_cons_of_mem _ hq)⟩
    have hc := closes_rep j hj r
    have o1 : pieceStep known k x R = ⟨(vopen known x s).spans, (vopen known x s).begins, (vopen known x s).path, (vopen known x s).pos - 1⟩ := by
      unfold pieceStep vopen
      rw [if_pos hk, h1, h2, h3, h4]
      have e1 : s.pos + 6 - 6 = s.pos := by omega
      have e2 : s.pos + 6 + ((x.length : Int) + 1) = s.pos + ((x.length : Int) + 8) - 1 := by omega
      dsimp only
      rw [e1, e2]
    show (runP known (k + 1 + 1) (gpcs r) (pieceStep known (k + 1) (Str.ofString ">" ++ rep j ++ gend r) (pieceStep known k x R))).spans = (vgs known r (vcl j (vopen known x s))).spans
    rw [o1]
    generalize vopen known x s = o
    obtain ⟨c1, c2, c3⟩ := closeAt_vcl o j
    have o2 : pieceStep known (k + 1) (Str.ofString ">" ++ rep j ++ gend r) ⟨o.spans, o.begins, o.path, o.pos - 1⟩ = ⟨(vcl j o).spans, (vcl j o).begins, (vcl j o).path, o.pos - 1 + (((Str.ofString ">" ++ rep j ++ gend r).length : Int) + 1)⟩ := by
      unfold pieceStep
      rw [if_neg (by omega), hc]
      dsimp only
      rw [c1, c2]
    rw [o2]
    cases r with
    | nil => rfl
    | cons q r =>
      refine run_vgs (q :: r) gd' (vcl j o) _ (k + 1 + 1) (by omega) rfl rfl rfl ?_
      show o.pos - 1 + (((Str.ofString ">" ++ rep j ++ Str.ofString "<d n=").length : Int) + 1) = _
      have e1 : (Str.ofString ">").length = 1 := rfl
      have e2 : (Str.ofString "<d n=").length = 5 := rfl
      rw [c3, str_add_length, str_add_length, rep_len, e1, e2]; omega
noncomputable def s0 : SSt := ⟨[], [], "", 0⟩
theorem spansOf_gtx {g : Grp} (hn : g ≠ []) (gd : Good g) : spansOf (gtx g) known = (vgs known g s0).spans := by
  unfold spansOf
  rw [split_gtx hn gd, spanAt_run known _ _ (Nat.le_refl _), List.take_length]
  show (runP known 1 (gpcs g) (pieceStep known 0 (Str.ofString "<d n=") ⟨[], [], "", 0⟩)).spans = _
  refine run_vgs known g gd s0 _ 1 rfl ?_ ?_ ?_ ?_
  · have : closes (Str.ofString "<d n=") = 0 := by decide +kernel
    simp only [pieceStep]; rw [if_neg (by decide), this]; rfl
  · simp only [pieceStep]; rw [if_neg (by decide)]; rfl
  · have : closes (Str.ofString "<d n=") = 0 := by decide +kernel
    simp only [pieceStep]; rw [if_neg (by decide), this]; rfl
  · simp only [pieceStep]; rw [if_neg (by decide)]; rfl
variable (nm : Nat → Str)
noncomputable def Q : T → Str → Nat × Grp → Nat × Grp
  | .nil, x, p => p
  | .node a b c, x, p => (0, (x, (Q a (nm 0) (Q b (nm 1) (Q c (nm 2) (p.1 + 1, p.2)))).1) :: (Q a (nm 0) (Q b (nm 1) (Q c (nm 2) (p.1 + 1, p.2)))).2)
noncomputable def ptx (p : Nat × Grp) : Str := rep p.1 ++ gtx p.2
theorem ptx_node (x : Str) (q : Nat × Grp) : ptx (0, (x, q.1) :: q.2) = Str.ofString "<d n=\"" ++ (x ++ (Str.ofString "\">" ++ ptx q)) := by
  simp only [ptx, rep, gtx, nil_app]
theorem ptx_up (p : Nat × Grp) : ptx (p.1 + 1, p.2) = Str.ofString "</d>" ++ ptx p := by
  simp only [ptx, rep, app_assoc]
theorem ptx_Q : ∀ (t : T) (x : Str) (p : Nat × Grp), ptx (Q nm t x p) = rend nm x t ++ ptx p
  | .nil, x, p => (nil_app _).symm
  | .node a b c, x, p => by
    rw [Q, ptx_node, ptx_Q a, ptx_Q b, ptx_Q c, ptx_up]
    simp only [rend, wrap, app_assoc]
noncomputable def vT : T → Str → SSt → SSt
  | .nil, x, s => s
  | .node a b c, x, s => vclose (vT c (nm 2) (vT b (nm 1) (vT a (nm 0) (vopen known x s))))
theorem vT_Q : ∀ (t : T) (x : Str) (p : Nat × Grp) (s : SSt), vgs known (Q nm t x p).2 (vcl (Q nm t x p).1 s) = vgs known p.2 (vcl p.1 (vT known nm t x s))
  | .nil, x, p, s => rfl
  | .node a b c, x, p, s => by
    show vgs known (Q nm a (nm 0) (Q nm b (nm 1) (Q nm c (nm 2) (p.1 + 1, p.2)))).2 (vcl (Q nm a (nm 0) (Q nm b (nm 1) (Q nm c (nm 2) (p.1 + 1, p.2)))).1 (vopen known x s)) = _
    rw [vT_Q a, vT_Q b, vT_Q c]; rfl
theorem Q_good (hf : ∀ k, free 34 (nm k)) : ∀ (t : T) (x : Str) (p : Nat × Grp) (n d : Nat), Low n t → n + d ≤ 4 → free 34 x → p.1 ≤ d → Good p.2 → Good (Q nm t x p).2 ∧ (Q nm t x p).1 ≤ d
  | .nil, x, p, n, d, _, _, _, h, g => ⟨g, h⟩
  | .node a b c, x, p, 0, d, hl, _, _, _, _ => hl.elim
  | .node a b c, x, p, n + 1, d, hl, hd, hx, h, g => by
    obtain ⟨c1, c2⟩ := Q_good hf c (nm 2) (p.1 + 1, p.2) n (d + 1) hl.2.2 (by omega) (hf 2) (by dsimp only; omega) g
    obtain ⟨b1, b2⟩ := Q_good hf b (nm 1) (Q nm c (nm 2) (p.1 + 1, p.2)) n (d + 1) hl.2.1 (by omega) (hf 1) c2 c1
    obtain ⟨a1, a2⟩ := Q_good hf a (nm 0) (Q nm b (nm 1) (Q nm c (nm 2) (p.1 + 1, p.2))) n (d + 1) hl.1 (by omega) (hf 0) b2 b1
    refine ⟨⟨fun q hq => ?_, fun q hq => ?_⟩, Nat.zero_le _⟩
    · rcases List.mem_cons.mp hq with rfl | hq
      · exact hx
      · exact a1.fr q hq
    · rcases List.mem_cons.mp hq with rfl | hq
      · dsimp only; omega
      · exact a1.j4 q hq
theorem spansOf_rend (hf : ∀ k, free 34 (nm k)) {t : T} {x : Str} (hx : free 34 x) (hl : Low 4 t) (hn : t ≠ .nil) : spansOf (rend nm x t) known = (vT known nm t x s0).spans := by
  obtain ⟨g1, g2⟩ := Q_good nm hf t x (0, []) 4 0 hl (by decide) hx (Nat.le_refl _) good_nil
  have e := ptx_Q nm t x (0, [])
  have v := vT_Q known nm t x (0, []) s0
  have e0 : (Q nm t x (0, [])).1 = 0 := by omega
  have en : (Q nm t x (0, [])).2 ≠ [] := by
    cases t with
    | nil => exact (hn rfl).elim
    | node a b c => simp [Q]
  unfold ptx at e
  rw [e0] at e v
  have e' : gtx (Q nm t x (0, [])).2 = rend nm x t := by
    have h1 : rep 0 ++ gtx (Q nm t x (0, [])).2 = gtx (Q nm t x (0, [])).2 := nil_app _
    have h2 : rend nm x t ++ (rep 0 ++ gtx []) = rend nm x t := app_nil _
    rw [← h1, e]; exact h2
  rw [← e', spansOf_gtx known en g1]
  exact congrArg (·.spans) v
end
end Mine
end

noncomputable section
open PySem PySem.W PyProof.Rows PySem.SeqAt
namespace Mine
open T
/-! the spans of a document -/
section
variable {α : Type}
theorem aset_new {l : List (Str × α)} {k : Str} {v : α} (h : k ∉ l.map (·.1)) : aset l k v = l ++ [(k, v)] := by unfold aset; rw [if_neg h]
theorem lookup_app (l m : List (Str × α)) (p : Str) : (l ++ m).lookup p = (l.lookup p).or (m.lookup p) := by
  induction l with
  | nil => simp
  | cons a l ih =>
    rw [List.cons_append, List.lookup_cons, List.lookup_cons, ih]
    split <;> simp
theorem lookup_none {l : List (Str × α)} {p : Str} (h : p ∉ l.map (·.1)) : l.lookup p = none := by
  have := lookup_keys (l := l) (k := p)
  cases e : l.lookup p with
  | none => rfl
  | some v => rw [e] at this; simp only [Option.isSome_some] at this; exact (h (by simpa using this.symm)).elim
theorem aset_lookup {l : List (Str × α)} {k : Str} {v : α} : (aset l k v).lookup k = some v := by
  unfold aset
  split
  · rename_i h
    induction l with
    | nil => cases h
    | cons a l ih =>
      rw [List.map_cons, List.lookup_cons]
      by_cases e : a.1 = k
      · rw [if_pos e]; simp
      · rw [if_neg e]
        have : (k == a.1) = false := by simpa using fun q : k = a.1 => e q.symm
        rw [this]
        refine ih ?_
        rw [List.map_cons, List.mem_cons] at h
        exact h.resolve_left fun q => e q.symm
  · rename_i h
    rw [lookup_app, lookup_none h]; simp
theorem aset_other {l : List (Str × α)} {k p : Str} {v : α} (hp : p ≠ k) : (aset l k v).lookup p = l.lookup p := by
  have hb : (p == k) = false := by simpa using hp
  unfold aset
  split
  · rename_i h
    clear h
    induction l with
    | nil => rfl
    | cons a l ih =>
      rw [List.map_cons, List.lookup_cons, List.lookup_cons]
      by_cases e : a.1 = k
      · rw [if_pos e, e]
        dsimp only
        rw [hb]; exact ih
      · rw [if_neg e, ih]
  · rw [lookup_app, List.lookup_cons, hb]; simp
theorem lookup_nodup {l : List (Str × α)} (hn : (l.map (·.1)).Nodup) {k : Str} {v : α} (h : (k, v) ∈ l) : l.lookup k = some v := by
  induction l with
  | nil => cases h
  | cons a l ih =>
    rw [List.lookup_cons]
    rw [List.map_cons, List.nodup_cons] at hn
    rcases List.mem_cons.mp h with rfl | h
    · simp
    · have : k ≠ a.1 := fun e => hn.1 (e ▸ List.mem_map.mpr ⟨_, h, rfl⟩)
      have hb : (k == a.1) = false := by simpa using this
      rw [hb]; exact ih hn.2 h
end

noncomputable def val (r : List Nat) : Prop := r.length ≤ 3 ∧ ∀ j ∈ r, j < 3
section
variable (rn nm : Nat → Str)
noncomputable def pth (r : List Nat) : Str := Str.ofString "/" ++ Txt.join "/" (r.map rn)
structure PathsOk (known : List (Str × Str)) : Prop where
  rt : pyJoin "" "/" = pth rn []
  jn : ∀ r k, val (r ++ [k]) → pyJoin (pth rn r) (rn k) = pth rn (r ++ [k])
  dn : ∀ r k, val (r ++ [k]) → pyDirname (pth rn (r ++ [k])) = pth rn r
  cp : ∀ r, val r → comps (pth rn r) = r.map rn
  inj : ∀ j k, j < 3 → k < 3 → rn j = rn k → j = k
  lk : ∀ k, k < 3 → known.lookup (nm k) = some (rn k)
  l0 : known.lookup (Str.ofString "/") = some (Str.ofString "/")
  fr : ∀ k, free 34 (nm k)
variable {rn nm} {known : List (Str × Str)} (ok : PathsOk rn nm known)
include ok
theorem map_inj3 : ∀ {r s : List Nat}, (∀ j ∈ r, j < 3) → (∀ j ∈ s, j < 3) → r.map rn = s.map rn → r = s
  | [], [], _, _, _ => rfl
  | [], b :: s, _, _, e => by cases e
  | a :: r, [], _, _, e => by cases e
  | a :: r, b :: s, hr, hs, e => by
    rw [List.map_cons, List.map_cons] at e
    injection e with e1 e2
    rw [ok.inj a b (hr a List.mem_cons_self) (hs b List.mem_cons_self) e1, map_inj3 (fun j hj => hr j (List.mem_cons_of_mem _ hj)) (fun j hj => hs j (List.mem_cons_of_mem _ hj)) e2]
theorem pth_inj {r s : List Nat} (hr : val r) (hs : val s) (e : pth rn r = pth rn s) : r = s :=
  map_inj3 ok hr.2 hs.2 (by rw [← ok.cp r hr, ← ok.cp s hs, e])
omit ok
noncomputable abbrev Ent := List Nat × (Int × Int)
variable (nm)
noncomputable def tl (x : Str) (t : T) : Int := ((rend nm x t).length : Int)
noncomputable def spL : T → Str → List Nat → Int → List Ent
  | .nil, _, _, _ => []
  | .node a b c, x, r, q => spL a (nm 0) (r ++ [0]) (q + (x.length + 8)) ++ spL b (nm 1) (r ++ [1]) (q + (x.length + 8) + tl nm (nm 0) a) ++ spL c (nm 2) (r ++ [2]) (q + (x.length + 8) + tl nm (nm 0) a + tl nm (nm 1) b)
    ++ [(r, (q, q + tl nm x (.node a b c)))]
variable (rn)
noncomputable def enc (l : List Ent) : Spans := l.map fun p => (pth rn p.1, p.2)
theorem enc_app (l m : List Ent) : enc rn (l ++ m) = enc rn l ++ enc rn m := List.map_append
variable {rn nm}
theorem tl_node (x : Str) (a b c : T) : tl nm x (.node a b c) = x.length + 8 + tl nm (nm 0) a + tl nm (nm 1) b + tl nm (nm 2) c + 4 := by
  unfold tl
  rw [rend, wrap_length, str_add_length, str_add_length]; omega
theorem spL_rows : ∀ (t : T) (x : Str) (r : List Nat) (q : Int) (s : List Nat), s ∈ (spL nm t x r q).map (·.1) ↔ ∃ s', s = r ++ s' ∧ sub t s' ≠ .nil
  | .nil, x, r, q, s => by
    constructor
    · intro h; cases h
    · rintro ⟨s', _, h⟩; exact (h (sub_nil _)).elim
  | .node a b c, x, r, q, s => by
    simp only [spL, List.map_append, List.mem_append, spL_rows a, spL_rows b, spL_rows c]
    constructor
    · rintro (((⟨s', rfl, h⟩ | ⟨s', rfl, h⟩) | ⟨s', rfl, h⟩) | h)
      · exact ⟨0 :: s', by simp, h⟩
      · exact ⟨1 :: s', by simp, h⟩
      · exact ⟨2 :: s', by simp, h⟩
      · have : s = r := by simpa using h
        exact ⟨[], by simp [this], by intro e; cases e⟩
    · rintro ⟨s', rfl, h⟩
      match s', h with
      | [], _ => exact .inr (by simp)
      | 0 :: s', h => exact .inl (.inl (.inl ⟨s', by simp, h⟩))
      | 1 :: s', h => exact .inl (.inl (.inr ⟨s', by simp, h⟩))
      | 2 :: s', h => exact .inl (.inr ⟨s', by simp, h⟩)
      | (k + 3) :: s', h => exact (h (sub_nil s')).elim
theorem fork {r s s' : List Nat} {j k : Nat} (h : r ++ [j] ++ s = r ++ [k] ++ s') : j = k := by
  rw [List.append_assoc, List.append_assoc] at h
  have := List.append_cancel_left h
  injection this
theorem stray {r s : List Nat} {j : Nat} : r ≠ r ++ [j] ++ s := by
  intro h
  have := congrArg List.length h
  simp at this
theorem spL_nodup : ∀ (t : T) (x : Str) (r : List Nat) (q : Int), ((spL nm t x r q).map (·.1)).Nodup
  | .nil, x, r, q => by simp [spL]
  | .node a b c, x, r, q => by
    have ra := spL_rows (nm := nm) a (nm 0) (r ++ [0])
    have rb := spL_rows (nm := nm) b (nm 1) (r ++ [1])
    have rc := spL_rows (nm := nm) c (nm 2) (r ++ [2])
    simp only [spL, List.map_append]
    rw [List.nodup_append]
    refine ⟨?_, by simp, ?_⟩
    · rw [List.nodup_append]
      refine ⟨?_, spL_nodup c _ _ _, ?_⟩
      · rw [List.nodup_append]
        refine ⟨spL_nodup a _ _ _, spL_nodup b _ _ _, ?_⟩
        intro u hu v hv e
        obtain ⟨s1, rfl, _⟩ := (ra _ u).mp hu
        obtain ⟨s2, rfl, _⟩ := (rb _ v).mp hv
        have := fork e; omega
      · intro u hu v hv e
        obtain ⟨s2, rfl, _⟩ := (rc _ v).mp hv
        rcases List.mem_append.mp hu with hu | hu
        · obtain ⟨s1, rfl, _⟩ := (ra _ u).mp hu
          have := fork e; omega
        · obtain ⟨s1, rfl, _⟩ := (rb _ u).mp hu
          have := fork e; omega
    · intro u hu v hv e
      have hv : v = r := by simpa using hv
      subst hv; subst e
      rcases List.mem_append.mp hu with hu | hu
      · rcases List.mem_append.mp hu with hu | hu
        · obtain ⟨s1, h, _⟩ := (ra _ u).mp hu; exact stray h
        · obtain ⟨s1, h, _⟩ := (rb _ u).mp hu; exact stray h
      · obtain ⟨s1, h, _⟩ := (rc _ u).mp hu; exact stray h

/-- what the machine does with one document below row r -/
noncomputable def VS (rn nm : Nat → Str) (known : List (Str × Str)) (t : T) : Prop := ∀ (k : Nat) (r : List Nat) (n : Nat) (st : SSt), k < 3 → Low n t → r.length + n ≤ 3 → (∀ j ∈ r, j < 3) → st.path = pth rn r → (∀ s, val (r ++ [k] ++ s) → pth rn (r ++ [k] ++ s) ∉ st.spans.map (·.1)) →
  (vT known nm t (nm k) st).spans = st.spans ++ enc rn (spL nm t (nm k) (r ++ [k]) st.pos) ∧ (vT known nm t (nm k) st).path = pth rn r ∧ (vT known nm t (nm k) st).pos = st.pos + tl nm (nm k) t ∧
  ∀ p, (∀ s, val (r ++ [k] ++ s) → p ≠ pth rn (r ++ [k] ++ s)) → (vT known nm t (nm k) st).begins.lookup p = st.begins.lookup p
theorem low_val {n : Nat} {t : T} {r s : List Nat} {k : Nat} (hl : Low n t) (hn : r.length + n ≤ 3) (hr : ∀ j ∈ r, j < 3) (hk : k < 3) (h : sub t s ≠ .nil) : val (r ++ [k] ++ s) := by
  obtain ⟨h1, h2⟩ := low_sub s n t hl h
  refine ⟨by simp; omega, fun j hj => ?_⟩
  rcases List.mem_append.mp hj with hj | hj
  · rcases List.mem_append.mp hj with hj | hj
    · exact hr j hj
    · rw [List.mem_singleton] at hj; omega
  · exact h2 j hj
include ok
theorem enc_fork {n : Nat} {t : T} {x : Str} {r s : List Nat} {j k : Nat} {q : Int} (hl : Low n t) (hn : r.length + n ≤ 3) (hr : ∀ j ∈ r, j < 3) (hj : j < 3) (hs : val (r ++ [k] ++ s)) (hjk : j ≠ k) : pth rn (r ++ [k] ++ s) ∉ (enc rn (spL nm t x (r ++ [j]) q)).map (·.1) := by
  intro h
  unfold enc at h
  rw [List.map_map] at h
  obtain ⟨e, he, h⟩ := List.mem_map.mp h
  obtain ⟨s', e1, e2⟩ := (spL_rows t x (r ++ [j]) q e.1).mp (List.mem_map.mpr ⟨e, he, rfl⟩)
  have h : pth rn e.1 = pth rn (r ++ [k] ++ s) := h
  rw [e1] at h
  exact hjk (fork (pth_inj ok (low_val hl hn hr hj e2) hs h))
theorem enc_stray {n : Nat} {t : T} {x : Str} {r : List Nat} {j : Nat} {q : Int} (hl : Low n t) (hn : r.length + n ≤ 3) (hr : ∀ j ∈ r, j < 3) (hj : j < 3) : pth rn r ∉ (enc rn (spL nm t x (r ++ [j]) q)).map (·.1) := by
  intro h
  unfold enc at h
  rw [List.map_map] at h
  obtain ⟨e, he, h⟩ := List.mem_map.mp h
  obtain ⟨s', e1, e2⟩ := (spL_rows t x (r ++ [j]) q e.1).mp (List.mem_map.mpr ⟨e, he, rfl⟩)
  have h : pth rn e.1 = pth rn r := h
  rw [e1] at h
  exact stray (pth_inj ok (low_val hl hn hr hj e2) ⟨by omega, hr⟩ h).symm
theorem vK {a b c : T} (va : VS rn nm known a) (vb : VS rn nm known b) (vc : VS rn nm known c) {r : List Nat} {n : Nat} {s : SSt} (hl : Low (n + 1) (.node a b c)) (hn : r.length + n ≤ 3) (hr : ∀ j ∈ r, j < 3) (hp : s.path = pth rn r)
    (hf : ∀ k u, k < 3 → val (r ++ [k] ++ u) → pth rn (r ++ [k] ++ u) ∉ s.spans.map (·.1)) :
    let z := vT known nm c (nm 2) (vT known nm b (nm 1) (vT known nm a (nm 0) s))
    z.spans = s.spans ++ enc rn (spL nm a (nm 0) (r ++ [0]) s.pos ++ spL nm b (nm 1) (r ++ [1]) (s.pos + tl nm (nm 0) a) ++ spL nm c (nm 2) (r ++ [2]) (s.pos + tl nm (nm 0) a + tl nm (nm 1) b)) ∧ z.path = pth rn r ∧ z.pos = s.pos + tl nm (nm 0) a + tl nm (nm 1) b + tl nm (nm 2) c ∧
    ∀ p, (∀ k u, k < 3 → val (r ++ [k] ++ u) → p ≠ pth rn (r ++ [k] ++ u)) → z.begins.lookup p = s.begins.lookup p := by
  intro z
  obtain ⟨a1, a2, a3, a4⟩ := va 0 r n s (by decide) hl.1 hn hr hp fun u hu => hf 0 u (by decide) hu
  obtain ⟨b1, b2, b3, b4⟩ := vb 1 r n (vT known nm a (nm 0) s) (by decide) hl.2.1 hn hr a2 fun u hu => by
    rw [a1, List.map_append, List.mem_append]
    exact fun q => q.elim (hf 1 u (by decide) hu) (enc_fork ok hl.1 hn hr (by decide) hu (by decide))
  obtain ⟨c1, c2, c3, c4⟩ := vc 2 r n (vT known nm b (nm 1) (vT known nm a (nm 0) s)) (by decide) hl.2.2 hn hr b2 fun u hu => by
    rw [b1, a1, List.map_append, List.map_append, List.mem_append, List.mem_append]
    exact fun q => q.elim (fun q => q.elim (hf 2 u (by decide) hu) (enc_fork ok hl.1 hn hr (by decide) hu (by decide))) (enc_fork ok hl.2.1 hn hr (by decide) hu (by decide))
  refine ⟨?_, c2, ?_, fun p hpp => ?_⟩
  · rw [enc_app, enc_app]
    show z.spans = _
    rw [c1, b1, a1, b3, a3]
    simp only [List.append_assoc]
  · rw [c3, b3, a3]
  · rw [c4 p fun u hu => hpp 2 u (by decide) hu, b4 p fun u hu => hpp 1 u (by decide) hu, a4 p fun u hu => hpp 0 u (by decide) hu]
theorem vS : ∀ t : T, VS rn nm known t
  | .nil => fun k r n st hk hl hn hr hp hf => ⟨by show st.spans = st.spans ++ []; simp, hp, by show st.pos = st.pos + 0; omega, fun p _ => rfl⟩
  | .node a b c => fun k r n st hk hl hn hr hp hf => by
    cases n with
    | zero => exact hl.elim
    | succ n =>
      have hv : val (r ++ [k]) := ⟨by simp; omega, fun j hj => by
        rcases List.mem_append.mp hj with hj | hj
        · exact hr j hj
        · rw [List.mem_singleton] at hj; omega⟩
      have po : (vopen known (nm k) st).path = pth rn (r ++ [k]) := by
        show pyJoin st.path ((known.lookup (nm k)).getD "?") = _
        rw [ok.lk k hk, hp]; exact ok.jn r k hv
      obtain ⟨k1, k2, k3, k4⟩ := vK ok (vS a) (vS b) (vS c) (r := r ++ [k]) (n := n) (s := vopen known (nm k) st) hl (by simp; omega) hv.2 po fun j u hj hu => by
        have := hf ([j] ++ u) (by rw [← List.append_assoc]; exact hu)
        rw [← List.append_assoc] at this; exact this
      have bo : (vopen known (nm k) st).begins = aset st.begins (pth rn (r ++ [k])) st.pos := by
        show aset st.begins (vopen known (nm k) st).path st.pos = _
        rw [po]
      show (vclose _).spans = _ ∧ (vclose _).path = _ ∧ (vclose _).pos = _ ∧ ∀ p, _ → (vclose _).begins.lookup p = _
      generalize vT known nm c (nm 2) (vT known nm b (nm 1) (vT known nm a (nm 0) (vopen known (nm k) st))) = z at k1 k2 k3 k4
      have lb : z.begins.lookup (pth rn (r ++ [k])) = some st.pos := by
        rw [k4 _ fun j u hj hu e => stray (pth_inj ok hv hu e), bo]; exact aset_lookup
      have nw : pth rn (r ++ [k]) ∉ z.spans.map (·.1) := by
        rw [k1, enc_app, enc_app, List.map_append, List.map_append, List.map_append, List.mem_append, List.mem_append, List.mem_append]
        have f0 := hf [] (by simpa using hv)
        rw [List.append_nil] at f0
        rintro (q | (q | q) | q)
        · exact f0 q
        · exact enc_stray ok hl.1 (by simp; omega) hv.2 (by decide) q
        · exact enc_stray ok hl.2.1 (by simp; omega) hv.2 (by decide) q
        · exact enc_stray ok hl.2.2 (by simp; omega) hv.2 (by decide) q
      have vp : (vopen known (nm k) st).pos = st.pos + ((nm k).length + 8) := rfl
      refine ⟨?_, ?_, ?_, fun p hpp => ?_⟩
      · show aset z.spans z.path ((z.begins.lookup z.path).getD 0, z.pos + 4) = _
        rw [k2, lb, aset_new nw, k1, vp]
        have e1 : z.pos + 4 = st.pos + tl nm (nm k) (.node a b c) := by rw [k3, vp, tl_node]; omega
        rw [e1, spL, enc_app rn (_ ++ _ ++ _) [_], ← List.append_assoc]
        rfl
      · show pyDirname z.path = _
        rw [k2]; exact ok.dn r k hv
      · show z.pos + 4 = _
        rw [k3, vp, tl_node]; omega
      · show z.begins.lookup p = _
        rw [k4 p fun j u hj hu e => hpp ([j] ++ u) (by rw [← List.append_assoc]; exact hu) (by rw [e, ← List.append_assoc]), bo, aset_other]
        have := hpp [] (by simpa using hv)
        rwa [List.append_nil] at this
theorem spans_rend {t : T} (hl : Low 4 t) (hn : t ≠ .nil) : spansOf (rend nm (Str.ofString "/") t) known = enc rn (spL nm t (Str.ofString "/") [] 0) := by
  have fs : free 34 (Str.ofString "/") := by unfold free; decide +kernel
  rw [spansOf_rend known nm ok.fr fs hl hn]
  cases t with
  | nil => exact (hn rfl).elim
  | node a b c =>
    have po : (vopen known (Str.ofString "/") s0).path = pth rn [] := by
      show pyJoin "" ((known.lookup (Str.ofString "/")).getD "?") = _
      rw [ok.l0]; exact ok.rt
    obtain ⟨k1, k2, k3, k4⟩ := vK ok (vS ok a) (vS ok b) (vS ok c) (r := []) (n := 3) (s := vopen known (Str.ofString "/") s0) hl (by simp) (by simp) po fun j u hj hu => by
      intro h; cases h
    have bo : (vopen known (Str.ofString "/") s0).begins = aset [] (pth rn []) 0 := by
      show aset [] (vopen known (Str.ofString "/") s0).path 0 = _
      rw [po]
    show (vclose _).spans = _
    generalize vT known nm c (nm 2) (vT known nm b (nm 1) (vT known nm a (nm 0) (vopen known (Str.ofString "/") s0))) = z at k1 k2 k3 k4
    have hv : val [] := ⟨by simp, by simp⟩
    have lb : z.begins.lookup (pth rn []) = some 0 := by
      rw [k4 _ fun j u hj hu e => stray (pth_inj ok hv hu e), bo]; exact aset_lookup
    have nw : pth rn [] ∉ z.spans.map (·.1) := by
      rw [k1, enc_app, enc_app, List.map_append, List.map_append, List.map_append, List.mem_append, List.mem_append, List.mem_append]
      rintro (q | (q | q) | q)
      · cases q
      · exact enc_stray ok hl.1 (by simp) hv.2 (by decide) q
      · exact enc_stray ok hl.2.1 (by simp) hv.2 (by decide) q
      · exact enc_stray ok hl.2.2 (by simp) hv.2 (by decide) q
    have vp : (vopen known (Str.ofString "/") s0).pos = 0 + ((Str.ofString "/").length + 8) := rfl
    show aset z.spans z.path ((z.begins.lookup z.path).getD 0, z.pos + 4) = _
    rw [k2, lb, aset_new nw, k1, vp]
    have e1 : z.pos + 4 = 0 + tl nm (Str.ofString "/") (.node a b c) := by rw [k3, vp, tl_node]; omega
    rw [e1, spL, enc_app rn (_ ++ _ ++ _) [_]]
    rfl
end
end Mine
end

noncomputable section
open PySem PySem.W PyProof.Rows PySem.SeqAt
namespace Mine
open T
/-! a document with one element exchanged -/
theorem str_len (x : Str) : x.cps.toList.length = x.length := by simp [Str.length]
theorem slice_pre (a b : Str) : Txt.slice (a ++ b) none (some (a.length : Int)) = a := by
  have := beq_iff_eq.mp (slice_closes_to (x := a ++ b) (j := (a.length : Int)) ⟨by omega, by rw [app_list, List.length_append, str_len]; omega⟩)
  rw [this]
  apply str_ext
  rw [app_list]
  show (((a.cps.toList ++ b.cps.toList).drop 0).take ((a.length : Int) - 0).toNat).toArray.toList = _
  have e : ((a.length : Int) - 0).toNat = a.cps.toList.length := by rw [str_len]; omega
  rw [e]; simp
theorem slice_mid (a b c : Str) : Txt.slice (a ++ (b ++ c)) (some (a.length : Int)) (some ((a.length : Int) + (b.length : Int))) = b := by
  have := beq_iff_eq.mp (slice_closes (x := a ++ (b ++ c)) (i := (a.length : Int)) (j := (a.length : Int) + (b.length : Int)) ⟨by omega, by omega, by rw [app_list, app_list, List.length_append, List.length_append, str_len, str_len]; omega⟩)
  rw [this]
  apply str_ext
  rw [app_list, app_list]
  have e1 : ((a.length : Int)).toNat = a.cps.toList.length := by rw [str_len]; omega
  have e2 : ((a.length : Int) + (b.length : Int) - (a.length : Int)).toNat = b.cps.toList.length := by rw [str_len]; omega
  rw [e1, e2]; simp
theorem slice_post (a b : Str) : Txt.slice (a ++ b) (some (a.length : Int)) none = b := by
  have := beq_iff_eq.mp (slice_closes_from (x := a ++ b) (i := (a.length : Int)) ⟨by omega, by rw [app_list, List.length_append, str_len]; omega⟩)
  rw [this]
  apply str_ext
  rw [app_list]
  have e1 : ((a.length : Int)).toNat = a.cps.toList.length := by rw [str_len]; omega
  have e2 : (((a.cps.toList ++ b.cps.toList).length : Int) - (a.length : Int)).toNat = b.cps.toList.length := by rw [List.length_append, str_len, str_len]; omega
  rw [e1, e2, List.drop_left, List.take_length]
section
variable {rn nm : Nat → Str} {known : List (Str × Str)}
noncomputable def nmAt (nm : Nat → Str) (x : Str) : List Nat → Str
  | [] => x
  | k :: s => nmAt nm (nm k) s
theorem whereL : ∀ (s : List Nat) (t : T) (x : Str) (r : List Nat) (q : Int), T.sub t s ≠ .nil → ∃ pre post : Str, (∀ v, rend nm x (T.put t s v) = pre ++ (rend nm (nmAt nm x s) v ++ post)) ∧ (r ++ s, (q + (pre.length : Int), q + (pre.length : Int) + tl nm (nmAt nm x s) (T.sub t s))) ∈ spL nm t x r q
  | [], t, x, r, q, h => by
    refine ⟨"", "", fun v => ?_, ?_⟩
    · rw [nil_app, app_nil]; rfl
    · cases t with
      | nil => exact (h rfl).elim
      | node a b c =>
        have e : q + (((Str.ofString "").length : Nat) : Int) = q := by have : (Str.ofString "").length = 0 := rfl; omega
        rw [e, List.append_nil]
        show (r, (q, q + tl nm x (.node a b c))) ∈ spL nm (.node a b c) x r q
        rw [spL]
        exact List.mem_append.mpr (.inr (List.mem_singleton.mpr rfl))
  | k :: s, t, x, r, q, h => by
    obtain ⟨hk, a, b, c, rfl⟩ := kid_lt (kid_of_sub h)
    have l6 : (Str.ofString "<d n=\"").length = 6 := rfl
    have l2 : (Str.ofString "\">").length = 2 := rfl
    match k, hk with
    | 0, _ =>
      obtain ⟨pre, post, h1, h2⟩ := whereL s a (nm 0) (r ++ [0]) (q + (x.length + 8)) h
      refine ⟨Str.ofString "<d n=\"" ++ (x ++ (Str.ofString "\">" ++ pre)), post ++ (rend nm (nm 1) b ++ (rend nm (nm 2) c ++ Str.ofString "</d>")), fun v => ?_, ?_⟩
      · show rend nm x (.node (T.put a s v) b c) = _
        simp only [rend, wrap, app_assoc]
        rw [h1 v]; simp only [app_assoc]; rfl
      · have e : q + (((Str.ofString "<d n=\"" ++ (x ++ (Str.ofString "\">" ++ pre))).length : Nat) : Int) = q + (x.length + 8) + (pre.length : Int) := by
          rw [str_add_length, str_add_length, str_add_length, l6, l2]; omega
        rw [e, spL]
        rw [List.append_assoc] at h2
        exact List.mem_append.mpr (.inl (List.mem_append.mpr (.inl (List.mem_append.mpr (.inl h2)))))
    | 1, _ =>
      obtain ⟨pre, post, h1, h2⟩ := whereL s b (nm 1) (r ++ [1]) (q + (x.length + 8) + tl nm (nm 0) a) h
      refine ⟨Str.ofString "<d n=\"" ++ (x ++ (Str.ofString "\">" ++ (rend nm (nm 0) a ++ pre))), post ++ (rend nm (nm 2) c ++ Str.ofString "</d>"), fun v => ?_, ?_⟩
      · show rend nm x (.node a (T.put b s v) c) = _
        simp only [rend, wrap, app_assoc]
        rw [h1 v]; simp only [app_assoc]; rfl
      · have e : q + (((Str.ofString "<d n=\"" ++ (x ++ (Str.ofString "\">" ++ (rend nm (nm 0) a ++ pre)))).length : Nat) : Int) = q + (x.length + 8) + tl nm (nm 0) a + (pre.length : Int) := by
          rw [str_add_length, str_add_length, str_add_length, str_add_length, l6, l2]; unfold tl; omega
        rw [e, spL]
        rw [List.append_assoc] at h2
        exact List.mem_append.mpr (.inl (List.mem_append.mpr (.inl (List.mem_append.mpr (.inr h2)))))
    | 2, _ =>
      obtain ⟨pre, post, h1, h2⟩ := whereL s c (nm 2) (r ++ [2]) (q + (x.length + 8) + tl nm (nm 0) a + tl nm (nm 1) b) h
      refine ⟨Str.ofString "<d n=\"" ++ (x ++ (Str.ofString "\">" ++ (rend nm (nm 0) a ++ (rend nm (nm 1) b ++ pre)))), post ++ Str.ofString "</d>", fun v => ?_, ?_⟩
      · show rend nm x (.node a b (T.put c s v)) = _
        simp only [rend, wrap, app_assoc]
        rw [h1 v]; simp only [app_assoc]; rfl
      · have e : q + (((Str.ofString "<d n=\"" ++ (x ++ (Str.ofString "\">" ++ (rend nm (nm 0) a ++ (rend nm (nm 1) b ++ pre))))).length : Nat) : Int) = q + (x.length + 8) + tl nm (nm 0) a + tl nm (nm 1) b + (pre.length : Int) := by
          rw [str_add_length, str_add_length, str_add_length, str_add_length, str_add_length, l6, l2]; unfold tl; omega
        rw [e, spL]
        rw [List.append_assoc] at h2
        exact List.mem_append.mpr (.inl (List.mem_append.mpr (.inr h2)))
variable (ok : PathsOk rn nm known)
/-- the whole document's text -/
noncomputable def doc (nm : Nat → Str) (t : T) : Str := rend nm (Str.ofString "/") t
noncomputable def rows (nm : Nat → Str) (t : T) : List (List Nat) := (spL nm t (Str.ofString "/") [] 0).map (·.1)
theorem rows_mem {t : T} {s : List Nat} : s ∈ rows nm t ↔ T.sub t s ≠ .nil := by
  unfold rows
  rw [spL_rows]
  constructor
  · rintro ⟨s', rfl, h⟩; exact h
  · intro h; exact ⟨s, rfl, h⟩
theorem rows_val {t : T} (hl : Low 4 t) {s : List Nat} (h : T.sub t s ≠ .nil) : val s := by
  obtain ⟨h1, h2⟩ := low_sub s 4 t hl h
  exact ⟨by omega, h2⟩
include ok
theorem keys_doc {t : T} (hl : Low 4 t) (hn : t ≠ .nil) : keysOf known (doc nm t) = (rows nm t).map (pth rn) := by
  unfold keysOf doc rows
  rw [spans_rend ok hl hn, enc, List.map_map, List.map_map]; rfl
theorem keys_mem {t : T} (hl : Low 4 t) (hn : t ≠ .nil) {s : List Nat} (hs : val s) : pth rn s ∈ keysOf known (doc nm t) ↔ T.sub t s ≠ .nil := by
  rw [keys_doc ok hl hn, List.mem_map]
  constructor
  · rintro ⟨u, hu, e⟩
    have hu := rows_mem.mp hu
    rw [← pth_inj ok (rows_val hl hu) hs e]; exact hu
  · intro h; exact ⟨s, rows_mem.mpr h, rfl⟩
theorem keys_row {t : T} (hl : Low 4 t) (hn : t ≠ .nil) {p : Str} (h : p ∈ keysOf known (doc nm t)) : ∃ s, p = pth rn s ∧ val s ∧ T.sub t s ≠ .nil := by
  rw [keys_doc ok hl hn, List.mem_map] at h
  obtain ⟨s, hs, rfl⟩ := h
  have hs := rows_mem.mp hs
  exact ⟨s, rfl, rows_val hl hs, hs⟩
theorem nodup_map_on {l : List (List Nat)} (h : l.Nodup) (hi : ∀ a ∈ l, ∀ b ∈ l, pth rn a = pth rn b → a = b) : (l.map (pth rn)).Nodup := by
  clear ok
  induction l with
  | nil => simp
  | cons a l ih =>
    rw [List.nodup_cons] at h
    rw [List.map_cons, List.nodup_cons]
    refine ⟨fun q => ?_, ih h.2 fun a ha b hb => hi a (List.mem_cons_of_mem _ ha) b (List.mem_cons_of_mem _ hb)⟩
    obtain ⟨b, hb, e⟩ := List.mem_map.mp q
    exact h.1 (hi b (List.mem_cons_of_mem _ hb) a List.mem_cons_self e ▸ hb)
theorem keys_nodup {t : T} (hl : Low 4 t) (hn : t ≠ .nil) : (keysOf known (doc nm t)).Nodup := by
  rw [keys_doc ok hl hn]
  exact nodup_map_on ok (spL_nodup t _ _ _) fun a ha b hb e => pth_inj ok (rows_val hl (rows_mem.mp ha)) (rows_val hl (rows_mem.mp hb)) e
theorem span_doc {t : T} (hl : Low 4 t) (hn : t ≠ .nil) {s : List Nat} (h : T.sub t s ≠ .nil) : ∃ pre post : Str, (∀ v, doc nm (T.put t s v) = pre ++ (rend nm (nmAt nm (Str.ofString "/") s) v ++ post)) ∧ spanOf known (doc nm t) (pth rn s) = ((pre.length : Int), (pre.length : Int) + tl nm (nmAt nm (Str.ofString "/") s) (T.sub t s)) := by
  obtain ⟨pre, post, h1, h2⟩ := whereL (nm := nm) s t (Str.ofString "/") [] 0 h
  refine ⟨pre, post, h1, ?_⟩
  have kn := keys_nodup ok hl hn
  unfold spanOf
  unfold keysOf at kn
  have e : spansOf (doc nm t) known = enc rn (spL nm t (Str.ofString "/") [] 0) := spans_rend ok hl hn
  rw [e] at kn ⊢
  have hm : (pth rn s, ((0 : Int) + (pre.length : Int), (0 : Int) + (pre.length : Int) + tl nm (nmAt nm (Str.ofString "/") s) (T.sub t s))) ∈ enc rn (spL nm t (Str.ofString "/") [] 0) := List.mem_map.mpr ⟨_, h2, rfl⟩
  rw [lookup_nodup kn hm]
  simp
theorem splice_doc {H G : T} (hl : Low 4 H) (hn : H ≠ .nil) (gl : Low 4 G) (gn : G ≠ .nil) {s : List Nat} (h : T.sub H s ≠ .nil) (g : T.sub G s ≠ .nil) : splice known (doc nm H) (doc nm G) (pth rn s) = doc nm (T.put H s (T.sub G s)) := by
  obtain ⟨p1, q1, e1, f1⟩ := span_doc ok hl hn h
  obtain ⟨p2, q2, e2, f2⟩ := span_doc ok gl gn g
  have eH := e1 (T.sub H s)
  rw [put_self] at eH
  have eG := e2 (T.sub G s)
  rw [put_self] at eG
  unfold splice
  rw [f1, f2, e1, eH, eG]
  unfold tl
  dsimp only
  rw [slice_pre, slice_mid, ← app_assoc p1 _ q1]
  have : ((p1.length : Int) + ((rend nm (nmAt nm (Str.ofString "/") s) (T.sub H s)).length : Int)) = (((p1 ++ rend nm (nmAt nm (Str.ofString "/") s) (T.sub H s)).length : Nat) : Int) := by rw [str_add_length]; omega
  rw [this, slice_post]
  simp only [app_assoc]
theorem doc_inj {t u : T} (tl' : Low 4 t) (tn : t ≠ .nil) (ul : Low 4 u) (un : u ≠ .nil) (e : doc nm t = doc nm u) : t = u := by
  apply T.ext
  intro s
  have key : ∀ {t u : T}, Low 4 t → t ≠ .nil → Low 4 u → u ≠ .nil → doc nm t = doc nm u → T.sub t s ≠ .nil → T.sub u s ≠ .nil := fun {t u} tl' tn ul un e h => by
    have := (keys_mem ok tl' tn (rows_val tl' h)).mpr h
    rw [e] at this
    exact (keys_mem ok ul un (rows_val tl' h)).mp this
  constructor
  · intro h
    exact Classical.byContradiction fun q => key ul un tl' tn e.symm q h
  · intro h
    exact Classical.byContradiction fun q => key tl' tn ul un e q h
theorem rows_len (t : T) : (rows nm t).length = size t := by
  clear ok
  unfold rows
  rw [List.length_map]
  have : ∀ (t : T) (x : Str) (r : List Nat) (q : Int), (spL nm t x r q).length = size t := by
    intro t
    induction t with
    | nil => intro x r q; rfl
    | node a b c ia ib ic => intro x r q; simp only [spL, List.length_append, ia, ib, ic, size, List.length_cons, List.length_nil]; omega
  exact this t _ _ _
end
end Mine
end

noncomputable section
open PySem PySem.W PyProof.Rows PySem.SeqAt
namespace Mine
open T
/-! the twelve names -/
noncomputable def nameB (x : Str) (i : Nat) : Bool := decide (x.length ≤ 10) && decide ((toldOf x i).length ≤ 10) && decide (toldOf x i = writtenOf x i) && JoinOk "" ((signs x).map (told1 i)) && writtenFits x && decide ((34 : Nat) ∉ (toldOf x i).cps.toList) && decide (toldOf x i ≠ Str.ofString "/")
theorem name_b : ([0, 1, 2] : List Nat).all (fun i => namePool.all fun x => nameB x i) = true := by decide +kernel
theorem name_i : ([0, 1, 2] : List Nat).all (fun i => namePool.all fun x => namePool.all fun y => !decide (toldOf x i = toldOf y i) || decide (x = y)) = true := by decide +kernel
noncomputable def nameP (x : Str) : Bool := decide ((47 : Nat) ∉ x.cps.toList) && okC x && !Txt.startswith x "/"
theorem name_p : namePool.all nameP = true := by decide +kernel
noncomputable def pthS (l : List Str) : Str := Str.ofString "/" ++ Txt.join "/" l
theorem end_1 : namePool.all (fun x => !Txt.endswith (pthS [x]) "/") = true := by decide +kernel
theorem end_2 : namePool.all (fun x => namePool.all fun y => !Txt.endswith (pthS [x, y]) "/") = true := by decide +kernel
noncomputable def dirOf (h : Str) : Str := if h ≠ "" ∧ h ≠ Txt.mul "/" h.length then Txt.rstripChars h "/" else h
theorem dir_0 : dirOf (Str.ofString "/") = pthS [] := by decide +kernel
theorem dir_1 : namePool.all (fun x => decide (dirOf (pthS [x] ++ Str.ofString "/") = pthS [x])) = true := by decide +kernel
theorem dir_2 : namePool.all (fun x => namePool.all fun y => decide (dirOf (pthS [x, y] ++ Str.ofString "/") = pthS [x, y])) = true := by decide +kernel

theorem slash : Str.ofString "/" = ⟨#[47]⟩ := by decide +kernel
theorem txt_join (sep : Str) (l : List Str) : Txt.join sep l = Str.join sep l := StrLaws.glued_eq_join sep l
theorem pthS_nil : pthS [] = Str.ofString "/" := by decide +kernel
theorem pthS_one (x : Str) : pthS [x] = Str.ofString "/" ++ x := rfl
theorem pthS_snoc {l : List Str} (x : Str) (h1 : l ≠ []) (h2 : l.length ≤ 2) : pthS (l ++ [x]) = pthS l ++ (Str.ofString "/" ++ x) := by
  rcases len12 h1 h2 with ⟨a, rfl⟩ | ⟨a, b, rfl⟩
  · unfold pthS; rw [txt_join, txt_join]
    show _ ++ (a ++ Str.ofString "/" ++ x) = _ ++ a ++ _
    simp only [app_assoc]
  · unfold pthS; rw [txt_join, txt_join]
    show _ ++ (a ++ Str.ofString "/" ++ (b ++ Str.ofString "/" ++ x)) = _ ++ (a ++ Str.ofString "/" ++ b) ++ _
    simp only [app_assoc]
structure NameOk (x : Str) : Prop where
  fr : free 47 x
  ok : okC x = true
  sw : Txt.startswith x "/" = false
theorem pool_ok {x : Str} (h : x ∈ namePool) : NameOk x := by
  have := List.all_eq_true.mp name_p x h
  unfold nameP at this
  simp only [Bool.and_eq_true, decide_eq_true_eq, Bool.not_eq_true'] at this
  exact ⟨this.1.1, this.1.2, this.2⟩
theorem comps_pthS {l : List Str} (h : ∀ x ∈ l, x ∈ namePool) : comps (pthS l) = l := by
  unfold comps
  by_cases e : l = []
  · subst e
    decide +kernel
  · have ej : Str.join (Str.ofString "/") (Str.ofString "" :: l) = pthS l := by
      unfold pthS
      rw [txt_join]
      cases l with
      | nil => exact (e rfl).elim
      | cons a l => rw [join_cons, nil_app]
    have hs : Txt.split (pthS l) (Str.ofString "/") = Str.ofString "" :: l := by
      rw [slash] at ej ⊢
      refine split_eq (by simp) (fun p hp => ?_) ej
      rcases List.mem_cons.mp hp with rfl | hp
      · unfold free; decide +kernel
      · exact (pool_ok (h p hp)).fr
    rw [hs, List.filter_cons, if_neg (by decide +kernel), List.filter_eq_self]
    exact fun x hx => (pool_ok (h x hx)).ok
theorem rfind_last (u x : Str) (hx : free 47 x) : Txt.rfind (u ++ (Str.ofString "/" ++ x)) "/" = (u.length : Int) := by
  rw [slash]
  have hl : (u ++ (⟨#[47]⟩ ++ x)).cps.toList = u.cps.toList ++ 47 :: x.cps.toList := by rw [app_list, app_list]; rfl
  have at_iff : ∀ i, StrLaws.At (u ++ (⟨#[47]⟩ ++ x)) ⟨#[47]⟩ (u ++ (⟨#[47]⟩ ++ x)).length i ↔ (u.cps.toList ++ 47 :: x.cps.toList)[i]? = some 47 := fun i => by
    rw [← hl]; exact StrLaws.subAt_one _ 47 i
  have here : (u.cps.toList ++ 47 :: x.cps.toList)[u.length]? = some 47 := by
    rw [← str_len u, List.getElem?_append_right (Nat.le_refl _)]; simp
  rcases rfind_whole (u ++ (⟨#[47]⟩ ++ x)) ⟨#[47]⟩ with ⟨_, h⟩ | ⟨i, e, h1, h2⟩
  · exact (h u.length ((at_iff _).mpr here)).elim
  · rw [e]
    rw [at_iff] at h1
    have g1 : ¬ i < u.length := fun q => h2 u.length q ((at_iff _).mpr here)
    have g2 : ¬ u.length < i := fun q => by
      rw [List.getElem?_append_right (by rw [str_len]; omega), str_len] at h1
      obtain ⟨j, hj⟩ : ∃ j, i - u.length = j + 1 := ⟨i - u.length - 1, by omega⟩
      rw [hj, List.getElem?_cons_succ] at h1
      exact hx (List.mem_of_getElem? h1)
    omega
theorem head_last (u x : Str) (hx : free 47 x) : pyHead (u ++ (Str.ofString "/" ++ x)) = u ++ Str.ofString "/" := by
  unfold pyHead
  rw [rfind_last u x hx, ← app_assoc]
  have : (u.length : Int) + 1 = (((u ++ Str.ofString "/").length : Nat) : Int) := by
    have e : (Str.ofString "/").length = 1 := rfl
    rw [str_add_length, e]; omega
  rw [this, slice_pre]
theorem pool2 {f : Str → Bool} (h : namePool.all f = true) {x : Str} (hx : x ∈ namePool) : f x = true := List.all_eq_true.mp h x hx
theorem dir_snoc {l : List Str} {x : Str} (h : ∀ y ∈ l, y ∈ namePool) (hx : x ∈ namePool) (h2 : l.length ≤ 2) : pyDirname (pthS (l ++ [x])) = pthS l := by
  have fr := (pool_ok hx).fr
  show dirOf (pyHead (pthS (l ++ [x]))) = _
  by_cases e : l = []
  · subst e
    rw [List.nil_append, pthS_one, ← nil_app (Str.ofString "/" ++ x), head_last _ _ fr, nil_app]
    exact dir_0
  · rw [pthS_snoc x e h2, head_last _ _ fr]
    rcases len12 e h2 with ⟨a, rfl⟩ | ⟨a, b, rfl⟩
    · exact of_decide_eq_true (pool2 dir_1 (h a (by simp)))
    · exact of_decide_eq_true (pool2 (pool2 dir_2 (h a (by simp))) (h b (by simp)))
theorem join_snoc {l : List Str} {x : Str} (h : ∀ y ∈ l, y ∈ namePool) (hx : x ∈ namePool) (h2 : l.length ≤ 2) : pyJoin (pthS l) x = pthS (l ++ [x]) := by
  have ne : pthS l ≠ "" := fun q => by
    have := congrArg Str.length q
    unfold pthS at this
    rw [str_add_length] at this
    have e : (Str.ofString "/").length = 1 := rfl
    have e' : (Str.ofString "").length = 0 := rfl
    omega
  unfold pyJoin
  rw [if_neg (fun q => q.elim (fun q => by rw [(pool_ok hx).sw] at q; cases q) ne)]
  by_cases e : l = []
  · subst e
    have : Txt.endswith (pthS []) "/" = true := by decide +kernel
    rw [if_pos this, pthS_nil]; rfl
  · rw [pthS_snoc x e h2, if_neg]
    rcases len12 e h2 with ⟨a, rfl⟩ | ⟨a, b, rfl⟩
    · have := pool2 end_1 (h a (by simp)); simpa using this
    · have := pool2 (pool2 end_2 (h a (by simp))) (h b (by simp)); simpa using this
end Mine
end

noncomputable section
open PySem PySem.W PyProof.Rows PySem.SeqAt
namespace Mine
open T
/-! the names and the documents that the script draws -/
theorem rt0 : pyJoin "" "/" = pthS [] := by decide +kernel
theorem erase_perm {α : Type} (d : α) : ∀ (l : List α) (i : Nat), i < l.length → (l.getD i d :: l.eraseIdx i).Perm l
  | [], i, h => by simp at h
  | a :: l, 0, _ => List.Perm.refl _
  | a :: l, i + 1, h => by
    have ih := erase_perm d l i (by simpa using h)
    show ((a :: l).getD (i + 1) d :: a :: l.eraseIdx i).Perm (a :: l)
    rw [List.getD_cons_succ]
    exact (List.Perm.swap _ _ _).trans (ih.cons a)
theorem name_perm (r : Int) : ∀ i, i ≤ 12 → ((nameSt r i).names ++ (nameSt r i).pool).Perm namePool
  | 0, _ => by show ([] ++ namePool).Perm namePool; exact List.Perm.refl _
  | i + 1, h => by
    have ih := name_perm r i (by omega)
    have hl := (nameSt_length r i (by omega)).1
    have hp : (0 : Int) < ((nameSt r i).pool.length : Int) := by rw [hl]; omega
    have h0 := Int.fmod_nonneg_of_pos (nameSt r i).rest hp
    have h1 := Int.fmod_lt_of_pos (nameSt r i).rest hp
    simp only [nameSt]
    generalize ((nameSt r i).rest.fmod ((nameSt r i).pool.length : Int)) = m at h0 h1
    have hm : m.toNat < (nameSt r i).pool.length := by omega
    rw [List.append_assoc]
    refine List.Perm.trans ?_ ih
    exact List.Perm.append_left _ (erase_perm _ _ _ hm)
theorem names_facts (ns : List Int) : (sortS (namesOf ns)).length = 3 ∧ (sortS (namesOf ns)).Nodup ∧ ∀ x ∈ sortS (namesOf ns), x ∈ namePool := by
  have p := sortS_perm (namesOf ns)
  have q := name_perm (((cellsOf ns).getD 0 0).fdiv 3) 3 (by decide)
  have nd : namePool.Nodup := by decide +kernel
  have hn : (namesOf ns).Nodup := ((List.nodup_append.mp (q.nodup_iff.mpr nd))).1
  refine ⟨?_, p.nodup_iff.mpr hn, fun x hx => ?_⟩
  · rw [p.length_eq]; exact (nameSt_length _ 3 (by decide)).2
  · have : x ∈ namesOf ns := p.mem_iff.mp hx
    exact q.mem_iff.mp (List.mem_append.mpr (.inl this))
theorem tree_facts (c : Int) : ∀ i, Down (treeSt c i).tree ∧ [] ∈ (treeSt c i).tree
  | 0 => ⟨fun r k h => by
      have : r ++ [k] = [] := by simpa [treeSt] using h
      simp at this, by simp [treeSt]⟩
  | i + 1 => by
    obtain ⟨h1, h2⟩ := tree_facts c i
    have hm : ∀ j, (treeSt c i).tree.getD j [] ∈ (treeSt c i).tree := fun j => by
      by_cases hj : j < (treeSt c i).tree.length
      · exact getD_mem hj
      · rw [List.getD_eq_getElem?_getD, List.getElem?_eq_none (by omega)]; exact h2
    simp only [treeSt]
    split
    · exact ⟨h1, h2⟩
    · refine ⟨fun r k h => ?_, List.mem_append.mpr (.inl h2)⟩
      rcases List.mem_append.mp h with h | h
      · exact List.mem_append.mpr (.inl (h1 r k h))
      · rw [List.mem_singleton] at h
        unfold rowAt at h
        have := (List.append_inj' h rfl).1
        rw [this]
        exact List.mem_append.mpr (.inl (hm _))
theorem trees_fine (ns : List Int) : Fine (treesOf ns) ∧ treesOf ns ≠ [] := by
  have hl : (treesOf ns).length = 3 := by
    unfold treesOf cellsOf
    rw [List.length_map, List.length_drop, cellsAt_length]
  have ht : ∀ t ∈ treesOf ns, ∃ c, t = treeOf c := fun t h => by
    obtain ⟨c, _, rfl⟩ := List.mem_map.mp h
    exact ⟨c, rfl⟩
  refine ⟨⟨fun t h => ?_, fun t h => ?_, fun t h => ?_, fun t h => ?_, by omega⟩, fun e => by rw [e] at hl; simp at hl⟩
  · obtain ⟨c, rfl⟩ := ht t h; exact (tree_facts c 3).1
  · obtain ⟨c, rfl⟩ := ht t h; exact treeSt_rows c 3
  · obtain ⟨c, rfl⟩ := ht t h; exact (tree_facts c 3).2
  · obtain ⟨c, rfl⟩ := ht t h; exact (treeSt_length c 3).2
section
variable {names : List Str} {i : Nat} (hi : i < 3) (h3 : names.length = 3) (hn : names.Nodup) (hp : ∀ x ∈ names, x ∈ namePool)
noncomputable def rnO (names : List Str) (k : Nat) : Str := names.getD k ""
noncomputable def nmO (names : List Str) (i k : Nat) : Str := (toldL names i).getD k ""
include hi hp
theorem name_facts {x : Str} (hx : x ∈ names) : x.length ≤ 10 ∧ (toldOf x i).length ≤ 10 ∧ toldOf x i = writtenOf x i ∧ JoinOk "" ((signs x).map (told1 i)) = true ∧ writtenFits x = true ∧ free 34 (toldOf x i) ∧ toldOf x i ≠ Str.ofString "/" := by
  have := List.all_eq_true.mp (List.all_eq_true.mp name_b i (mem3 hi)) x (hp x hx)
  unfold nameB at this
  simp only [Bool.and_eq_true, decide_eq_true_eq] at this
  obtain ⟨⟨⟨⟨⟨⟨a, b⟩, c⟩, d⟩, e⟩, f⟩, g⟩ := this
  exact ⟨a, b, c, d, e, f, g⟩
theorem told_inj {x y : Str} (hx : x ∈ names) (hy : y ∈ names) (e : toldOf x i = toldOf y i) : x = y := by
  have := List.all_eq_true.mp (List.all_eq_true.mp (List.all_eq_true.mp name_i i (mem3 hi)) x (hp x hx)) y (hp y hy)
  simpa [e] using this
include h3 hn
theorem told_nodup : (Str.ofString "/" :: toldL names i).Nodup := by
  rw [List.nodup_cons]
  refine ⟨fun q => ?_, ?_⟩
  · obtain ⟨x, hx, e⟩ := List.mem_map.mp q
    exact (name_facts hi hp hx).2.2.2.2.2.2 e
  · unfold toldL List.Nodup
    rw [List.pairwise_map]
    exact (List.Pairwise.and_mem.mp hn).imp fun {a b} h e => h.2.2 (told_inj hi hp h.1 h.2.1 e)
theorem paths_ok : PathsOk (rnO names) (nmO names i) (knownL names i) := by
  have tn := told_nodup hi h3 hn hp
  obtain ⟨x0, x1, x2, rfl⟩ := len3 h3
  have mem : ∀ k, k < 3 → rnO [x0, x1, x2] k ∈ namePool := fun k hk => hp _ (getD_mem (l := [x0, x1, x2]) hk)
  have mems : ∀ r : List Nat, (∀ j ∈ r, j < 3) → ∀ y ∈ r.map (rnO [x0, x1, x2]), y ∈ namePool := fun r hr y hy => by
    obtain ⟨j, hj, rfl⟩ := List.mem_map.mp hy
    exact mem j (hr j hj)
  have pe : ∀ r, pth (rnO [x0, x1, x2]) r = pthS (r.map (rnO [x0, x1, x2])) := fun r => rfl
  refine ⟨rt0, fun r k hv => ?_, fun r k hv => ?_, fun r hv => ?_, fun j k hj hk e => ?_, fun k hk => ?_, rfl, fun k => ?_⟩
  · have := hv.1
    rw [pe, pe, List.map_append]
    exact join_snoc (mems r fun j hj => hv.2 j (List.mem_append.mpr (.inl hj))) (mem k (hv.2 k (by simp))) (by rw [List.length_map]; simp at this; omega)
  · have := hv.1
    rw [pe, pe, List.map_append]
    exact dir_snoc (mems r fun j hj => hv.2 j (List.mem_append.mpr (.inl hj))) (mem k (hv.2 k (by simp))) (by rw [List.length_map]; simp at this; omega)
  · rw [pe]; exact comps_pthS (mems r hv.2)
  · simp only [List.nodup_cons, List.mem_cons, List.not_mem_nil, or_false, not_or] at hn
    rcases lt3 hj with rfl | rfl | rfl <;> rcases lt3 hk with rfl | rfl | rfl
    · rfl
    · exact (hn.1.1 e).elim
    · exact (hn.1.2 e).elim
    · exact (hn.1.1 e.symm).elim
    · rfl
    · exact (hn.2.1 e).elim
    · exact (hn.1.2 e.symm).elim
    · exact (hn.2.1 e.symm).elim
    · rfl
  · have kn : ((knownL [x0, x1, x2] i).map (·.1)).Nodup := tn
    refine lookup_nodup kn ?_
    rcases lt3 hk with rfl | rfl | rfl
    · exact .tail _ (.head _)
    · exact .tail _ (.tail _ (.head _))
    · exact .tail _ (.tail _ (.tail _ (.head _)))
  · match k with
    | 0 => exact (name_facts hi hp (x := x0) (by simp)).2.2.2.2.2.1
    | 1 => exact (name_facts hi hp (x := x1) (by simp)).2.2.2.2.2.1
    | 2 => exact (name_facts hi hp (x := x2) (by simp)).2.2.2.2.2.1
    | k + 3 => exact free_e
end
end Mine
end

noncomputable section
open PySem PySem.W PyProof.Rows PySem.SeqAt
namespace Mine
open T
/-! what is found, in plain terms -/
theorem len_of_sub {l m : List Str} (hn : l.Nodup) (h : ∀ x ∈ l, x ∈ m) : l.length ≤ m.length := by
  induction l generalizing m with
  | nil => exact Nat.zero_le _
  | cons a l ih =>
    rw [List.nodup_cons] at hn
    have ha := h a List.mem_cons_self
    have := ih (m := m.erase a) hn.2 fun x hx => (List.mem_erase_of_ne (fun e : x = a => hn.1 (by rw [← e]; exact hx))).mpr (h x (List.mem_cons_of_mem _ hx))
    rw [List.length_erase_of_mem ha] at this
    have : 0 < m.length := List.length_pos_of_mem ha
    rw [List.length_cons]; omega
theorem perm_of {l m : List Str} (hl : l.Nodup) (hm : m.Nodup) (h : ∀ x, x ∈ l ↔ x ∈ m) : l.Perm m := by
  rw [List.perm_iff_count]
  intro a
  rw [hl.count, hm.count]
  simp only [h a]
theorem mdiff_mem {a b : List Str} {x : Str} : x ∈ mdiff (sortS a) (sortS b) ↔ x ∈ a ∧ x ∉ b := by
  unfold mdiff
  rw [List.mem_filter, decide_eq_true_eq, (sortS_perm a).mem_iff, (sortS_perm b).mem_iff]
theorem mdiff_len (a b : List Str) : (mdiff (sortS a) (sortS b)).length ≤ a.length := by
  unfold mdiff
  refine Nat.le_trans (List.length_filter_le _ _) ?_
  rw [(sortS_perm a).length_eq]; exact Nat.le_refl _
/-! found only grows -/
theorem add_pre (f : List Str) (t : Str) : f <+: addNew1 f t := by
  unfold addNew1
  split
  · exact List.prefix_refl _
  · exact List.prefix_append _ _
theorem add_mem (f : List Str) (t : Str) : t ∈ addNew1 f t := by
  unfold addNew1
  split
  · assumption
  · simp
theorem fold_pre {β : Type} (g : List Str → β → List Str) (hg : ∀ f b, f <+: g f b) : ∀ (l : List β) (f : List Str), f <+: l.foldl g f
  | [], f => List.prefix_refl _
  | b :: l, f => (hg f b).trans (fold_pre g hg l (g f b))
theorem fold_mem {β : Type} (g : List Str → β → List Str) (hg : ∀ f b, f <+: g f b) {x : Str} {b : β} (hx : ∀ f, x ∈ g f b) : ∀ (l : List β) (f : List Str), b ∈ l → x ∈ l.foldl g f
  | a :: l, f, h => by
    rcases List.mem_cons.mp h with rfl | h
    · exact (fold_pre g hg l (g f b)).subset (hx f)
    · exact fold_mem g hg hx l (g f a) h
section
variable (known : List (Str × Str)) (texts : List Str)
theorem path_pre (here text : Str) (f : List Str) (p : Str) : f <+: pathStep known here text f p := by
  unfold pathStep
  split
  · exact add_pre _ _
  · exact List.prefix_refl _
theorem giver_pre (here : Str) (f : List Str) (t : Str) : f <+: giverStep known here f t := fold_pre _ (path_pre known here t) _ _
theorem here_pre (gs f : List Str) (here : Str) : f <+: hereStep known gs f here := fold_pre _ (giver_pre known here) _ _
theorem found_pre : ∀ (i d : Nat), foundAt known texts i <+: foundAt known texts (i + d)
  | i, 0 => List.prefix_refl _
  | i, d + 1 => (found_pre i d).trans (here_pre known _ _ _)
theorem here_mem {gs f : List Str} {here text p : Str} (ht : text ∈ gs) (h1 : p ∈ keysOf known text) (h2 : p ∈ keysOf known here) : splice known here text p ∈ hereStep known gs f here :=
  fold_mem _ (giver_pre known here) (b := text) (fun f' => fold_mem _ (path_pre known here text) (b := p) (fun f'' => by unfold pathStep; rw [if_pos h2]; exact add_mem _ _) _ _ h1) _ _ ht
theorem firsts_mem {t : Str} (h : t ∈ texts) : t ∈ firsts texts := fold_mem addNew1 add_pre (fun f => add_mem f t) texts [] h
theorem found_closed {N : Nat} (h1 : ∀ j, j < N → j < (foundAt known texts j).length) (h2 : (foundAt known texts N).length ≤ N) {here text p : Str} (hh : here ∈ foundAt known texts N) (ht : text ∈ texts) (k1 : p ∈ keysOf known here) (k2 : p ∈ keysOf known text) :
    splice known here text p ∈ foundAt known texts N := by
  obtain ⟨j, hj, e⟩ := List.getElem_of_mem hh
  have hjN : j < N := by omega
  have hj' := h1 j hjN
  obtain ⟨d, hd⟩ : ∃ d, N = j + d := ⟨N - j, by omega⟩
  obtain ⟨d', hd'⟩ : ∃ d, N = (j + 1) + d := ⟨N - (j + 1), by omega⟩
  have pre : foundAt known texts j <+: foundAt known texts N := by rw [hd]; exact found_pre known texts j d
  have pre' : foundAt known texts (j + 1) <+: foundAt known texts N := by rw [hd']; exact found_pre known texts (j + 1) d'
  have eh : (foundAt known texts j).getD j "" = here := by
    obtain ⟨m, hm⟩ := pre
    rw [← e]
    have : (foundAt known texts N)[j]? = (foundAt known texts j)[j]? := by rw [← hm, List.getElem?_append_left hj']
    rw [List.getElem?_eq_getElem hj] at this
    rw [List.getD_eq_getElem?_getD, ← this]; rfl
  refine pre'.subset ?_
  show _ ∈ hereStep known (firsts texts) (foundAt known texts j) ((foundAt known texts j).getD j "")
  rw [eh]
  exact here_mem known (firsts_mem texts ht) k2 k1
end
theorem low_toT : ∀ (f : Nat) (t : Tree) (row : Row), Low f (toT f t row)
  | 0, _, _ => trivial
  | f + 1, t, row => by
    by_cases h : row ∈ t
    · simp only [toT]; rw [if_pos h]; exact ⟨low_toT f t _, low_toT f t _, low_toT f t _⟩
    · rw [toT_not h]; trivial
theorem start_slash (y : Str) : Txt.startswith (Str.ofString "/" ++ y) "/" = true := by
  have := (StrLaws.subAt_one (Str.ofString "/" ++ y) 47 0).mpr (by rw [app_list, slash]; rfl)
  unfold Txt.startswith
  rw [show (Str.ofString "/") = ⟨#[47]⟩ from slash] at this ⊢
  rw [Bool.and_eq_true, decide_eq_true_eq]
  exact this
section
variable {names : List Str} {i : Nat} {trees : List Tree} (hi : i < 3) (h3 : names.length = 3) (hn : names.Nodup) (hp : ∀ x ∈ names, x ∈ namePool) (fi : Fine trees) (ht0 : trees ≠ [])
noncomputable def usO (trees : List Tree) : List T := trees.map (toT 4 · [])
include fi in
theorem us_low : ∀ u ∈ usO trees, Low 4 u ∧ u ≠ .nil := fun u hu => by
  obtain ⟨t, ht, rfl⟩ := List.mem_map.mp hu
  exact ⟨low_toT 4 t [], (toT_ne (by simp) (fi.low t ht)).mpr (fi.root t ht)⟩
include fi in
theorem adm_low4 {U : T} (h : Adm (usO trees) U) : Low 4 U ∧ U ≠ .nil := ⟨adm_low 4 U _ (fun u hu => (us_low fi u hu).1) h, h.ne⟩
theorem allL_docs (names : List Str) (i : Nat) (trees : List Tree) : allL names i trees = (docsF trees 4 []).map (doc (nmO names i)) := textsF_docs (toldL names i) trees 4 []
include fi in
theorem docs_adm {U : T} : U ∈ docsF trees 4 [] ↔ Adm (usO trees) U := mem_docsF fi 4 [] U (by simp)
include fi in
theorem first_doc {t : Tree} (ht : t ∈ trees) : textsF (toldL names i) [t] 4 [] ≠ [] ∧ firstText (toldL names i) t = doc (nmO names i) (toT 4 t []) := by
  have f1 : Fine [t] := ⟨fun u hu => by rw [List.mem_singleton] at hu; exact hu ▸ fi.down t ht, fun u hu => by rw [List.mem_singleton] at hu; exact hu ▸ fi.low t ht, fun u hu => by rw [List.mem_singleton] at hu; exact hu ▸ fi.root t ht,
    fun u hu => by rw [List.mem_singleton] at hu; exact hu ▸ fi.len t ht, by simp⟩
  have e : textsF (toldL names i) [t] 4 [] = (docsF [t] 4 []).map (doc (nmO names i)) := textsF_docs (toldL names i) [t] 4 []
  have hm : toT 4 t [] ∈ docsF [t] 4 [] := (docs_adm f1).mpr (adm_self _ _ (List.mem_singleton.mpr rfl) ((toT_ne (by simp) (fi.low t ht)).mpr (fi.root t ht)))
  have all : ∀ U ∈ docsF [t] 4 [], U = toT 4 t [] := fun U hU => adm_one U _ ((docs_adm f1).mp hU)
  unfold firstText
  rw [e]
  cases h : docsF [t] 4 [] with
  | nil => rw [h] at hm; cases hm
  | cons a l => exact ⟨by simp, by rw [← all a (by rw [h]; exact List.mem_cons_self)]; rfl⟩
include fi in
theorem textsL_us : textsL names i trees = (usO trees).map (doc (nmO names i)) := by
  unfold textsL usO
  rw [List.map_map]
  apply List.map_congr_left
  intro t ht
  exact (first_doc fi ht).2
noncomputable def PO (names : List Str) (i : Nat) (trees : List Tree) (t : Str) : Prop := ∃ U, Adm (usO trees) U ∧ t = doc (nmO names i) U
include fi in
theorem PO_all {t : Str} : PO names i trees t ↔ t ∈ allL names i trees := by
  rw [allL_docs, List.mem_map]
  constructor
  · rintro ⟨U, h, rfl⟩; exact ⟨U, (docs_adm fi).mpr h, rfl⟩
  · rintro ⟨U, h, rfl⟩; exact ⟨U, (docs_adm fi).mp h, rfl⟩
include hi h3 hn hp fi in
theorem all_nodup : (allL names i trees).Nodup := by
  have ok := paths_ok hi h3 hn hp
  rw [allL_docs]
  unfold List.Nodup
  rw [List.pairwise_map]
  refine (List.Pairwise.and_mem.mp (docsF_nodup trees 4 [])).imp fun {a b} h e => h.2.2 ?_
  have a4 := adm_low4 fi ((docs_adm fi).mp h.1)
  have b4 := adm_low4 fi ((docs_adm fi).mp h.2.1)
  exact doc_inj ok a4.1 a4.2 b4.1 b4.2 e
include fi in
theorem all_cnt : (allL names i trees).length < 64 := by
  rw [allL_docs, List.length_map]; exact docs_63 fi
theorem fold_len : ∀ (l : List Str) (a : Nat), (∀ x ∈ l, x.length ≤ 10) → l.foldl (fun n x => n + x.length + 1) a ≤ a + 11 * l.length
  | [], a, _ => Nat.le_refl _
  | x :: l, a, h => by
    have h1 := h x List.mem_cons_self
    have h2 := fold_len l (a + x.length + 1) fun y hy => h y (List.mem_cons_of_mem _ hy)
    rw [List.foldl_cons, List.length_cons]
    omega
theorem sum_len : ∀ (l : List Str), (∀ x ∈ l, x.length ≤ 10) → (l.map (·.length)).sum ≤ 10 * l.length
  | [], _ => Nat.le_refl _
  | x :: l, h => by
    have h1 := h x List.mem_cons_self
    have h2 := sum_len l fun y hy => h y (List.mem_cons_of_mem _ hy)
    rw [List.map_cons, List.sum_cons, List.length_cons]
    omega
include hp in
theorem rn_len (k : Nat) : (rnO names k).length ≤ 10 := by
  unfold rnO
  by_cases hk : k < names.length
  · have := hp _ (getD_mem (d := ("" : Str)) hk)
    have := List.all_eq_true.mp (List.all_eq_true.mp name_b 0 (List.mem_cons_self)) _ this
    unfold nameB at this
    simp only [Bool.and_eq_true, decide_eq_true_eq] at this
    exact this.1.1.1.1.1.1
  · rw [List.getD_eq_getElem?_getD, List.getElem?_eq_none (Nat.le_of_not_lt hk)]; exact Nat.zero_le _
include h3 hp in
theorem pth_len {s : List Nat} (hs : val s) : (pth (rnO names) s).length ≤ 100 ∧ JoinOk "/" (s.map (rnO names)) = true ∧ (Txt.join "/" (s.map (rnO names))).length ≤ 100 := by
  have e1 : (Str.ofString "/").length = 1 := rfl
  have hl := hs.1
  have al : ∀ x ∈ s.map (rnO names), x.length ≤ 10 := fun x hx => by
    obtain ⟨k, _, rfl⟩ := List.mem_map.mp hx
    exact rn_len hp k
  have a1 := fold_len _ 0 al
  have a2 := sum_len _ al
  have a3 := StrLaws.join_length_le (Str.ofString "/") (s.map (rnO names))
  rw [List.length_map] at a1 a2 a3
  rw [e1] at a3
  have jl : (Txt.join "/" (s.map (rnO names))).length ≤ 99 := by
    rw [txt_join]
    clear a1; omega
  refine ⟨by unfold pth; rw [str_add_length, e1]; clear a1 a2 a3; omega, ?_, Nat.le_succ_of_le jl⟩
  unfold JoinOk
  rw [e1, List.foldl_toArray]
  have : (s.map (rnO names)).foldl (fun n x => n + x.length + 1) 0 ≤ 33 := by clear a2 a3 jl; omega
  clear a1 a2 a3 jl al
  generalize (s.map (rnO names)).foldl (fun n x => n + x.length + 1) 0 = n at this ⊢
  simp [Builtin.Str.tooLong, sizeLine]; omega
include fi in
theorem us_sizes {U : T} (h : Adm (usO trees) U) : size U ≤ 12 := by
  refine Nat.le_trans (adm_size U _ h) ?_
  have := sizes_le (us := usO trees) (m := 4) fun u hu => by
    obtain ⟨t, ht, rfl⟩ := List.mem_map.mp hu
    exact Nat.le_trans (toT_size 4 t []) (Nat.le_trans List.countP_le_length (fi.len t ht))
  have l3 := fi.n3
  unfold usO at this ⊢
  rw [List.length_map] at this
  omega
include hi h3 hn hp fi in
theorem step_ok {H G : T} {s : List Nat} (hH : Adm (usO trees) H) (hG : G ∈ usO trees) (hs : val s) (k1 : T.sub H s ≠ .nil) (k2 : T.sub G s ≠ .nil) :
    StepOk (knownL names i) (PO names i trees) (doc (nmO names i) H) (doc (nmO names i) G) (pth (rnO names) s) (doc (nmO names i) (T.put H s (T.sub G s))) := by
  have ok := paths_ok hi h3 hn hp
  have hF := adm_put s _ H G hH hG k1 k2
  obtain ⟨lH, nH⟩ := adm_low4 fi hH
  obtain ⟨lF, nF⟩ := adm_low4 fi hF
  obtain ⟨lG, nG⟩ := us_low fi G hG
  have subF : ∀ v, T.sub (T.put H s (T.sub G s)) (s ++ v) = T.sub G (s ++ v) := fun v => by rw [sub_put_same v s H k1, ← sub_append]
  have pw : ∀ x, x ∈ mdiff (sortS (keysOf (knownL names i) (doc (nmO names i) H))) (sortS (keysOf (knownL names i) (doc (nmO names i) (T.put H s (T.sub G s))))) → ∃ u, x = pth (rnO names) u ∧ val u ∧ s <+: u ∧ T.sub G u = .nil := fun x hx => by
    obtain ⟨h1, h2⟩ := mdiff_mem.mp hx
    obtain ⟨u, rfl, hu, hh⟩ := keys_row ok lH nH h1
    have hf : T.sub (T.put H s (T.sub G s)) u = .nil := Classical.byContradiction fun q => h2 ((keys_mem ok lF nF hu).mpr q)
    have pre : s <+: u := Classical.byContradiction fun q => hh ((sub_put_other s u H k1 q).mp hf)
    refine ⟨u, rfl, hu, pre, ?_⟩
    obtain ⟨v, rfl⟩ := pre
    rw [← subF v]; exact hf
  have pc : ∀ x, x ∈ mdiff (sortS (keysOf (knownL names i) (doc (nmO names i) (T.put H s (T.sub G s))))) (sortS (keysOf (knownL names i) (doc (nmO names i) H))) → ∃ u, x = pth (rnO names) u ∧ val u ∧ s <+: u ∧ T.sub G u ≠ .nil := fun x hx => by
    obtain ⟨h1, h2⟩ := mdiff_mem.mp hx
    obtain ⟨u, rfl, hu, hh⟩ := keys_row ok lF nF h1
    have hf : T.sub H u = .nil := Classical.byContradiction fun q => h2 ((keys_mem ok lH nH hu).mpr q)
    have pre : s <+: u := Classical.byContradiction fun q => hh ((sub_put_other s u H k1 q).mpr hf)
    refine ⟨u, rfl, hu, pre, ?_⟩
    obtain ⟨v, rfl⟩ := pre
    rw [← subF v]; exact hh
  have any : ∀ x ∈ pth (rnO names) s :: (mdiff (sortS (keysOf (knownL names i) (doc (nmO names i) H))) (sortS (keysOf (knownL names i) (doc (nmO names i) (T.put H s (T.sub G s))))) ++ mdiff (sortS (keysOf (knownL names i) (doc (nmO names i) (T.put H s (T.sub G s))))) (sortS (keysOf (knownL names i) (doc (nmO names i) H)))),
      ∃ u, x = pth (rnO names) u ∧ val u ∧ s <+: u := fun x hx => by
    rcases List.mem_cons.mp hx with rfl | hx
    · exact ⟨s, rfl, hs, List.prefix_refl _⟩
    · rcases List.mem_append.mp hx with hx | hx
      · obtain ⟨u, a, b, c, _⟩ := pw x hx; exact ⟨u, a, b, c⟩
      · obtain ⟨u, a, b, c, _⟩ := pc x hx; exact ⟨u, a, b, c⟩
  have pl := pth_len h3 hp hs
  have kl : ∀ {U : T}, Adm (usO trees) U → (keysOf (knownL names i) (doc (nmO names i) U)).length ≤ 12 := fun {U} hU => by
    obtain ⟨lU, nU⟩ := adm_low4 fi hU
    rw [keys_doc ok lU nU, List.length_map, rows_len ok]; exact us_sizes fi hU
  refine ⟨⟨_, hF, rfl⟩, fun hne e => hne ?_, fun _ hm => ?_, fun _ => ⟨fun p hpm => ?_, fun p hpm => ?_, fun p hpm => ?_, ?_⟩, ?_, ?_, ?_, fun x hx => ?_, fun x hx => ?_⟩
  · congr 1
    apply T.ext
    intro u
    rw [List.append_eq_nil_iff] at e
    obtain ⟨e1, e2⟩ := e
    constructor
    · intro h
      refine Classical.byContradiction fun q => ?_
      have hu := rows_val lH q
      have : pth (rnO names) u ∈ mdiff (sortS (keysOf (knownL names i) (doc (nmO names i) H))) (sortS (keysOf (knownL names i) (doc (nmO names i) (T.put H s (T.sub G s))))) :=
        mdiff_mem.mpr ⟨(keys_mem ok lH nH hu).mpr q, fun z => (keys_mem ok lF nF hu).mp z h⟩
      rw [e1] at this; cases this
    · intro h
      refine Classical.byContradiction fun q => ?_
      have hu := rows_val lF q
      have : pth (rnO names) u ∈ mdiff (sortS (keysOf (knownL names i) (doc (nmO names i) (T.put H s (T.sub G s))))) (sortS (keysOf (knownL names i) (doc (nmO names i) H))) :=
        mdiff_mem.mpr ⟨(keys_mem ok lF nF hu).mpr q, fun z => (keys_mem ok lH nH hu).mp z h⟩
      rw [e2] at this; cases this
  · rcases List.mem_append.mp hm with hm | hm
    · refine (mdiff_mem.mp hm).2 ((keys_mem ok lF nF hs).mpr ?_)
      have := subF []
      rw [List.append_nil] at this
      rw [this]; exact k2
    · exact (mdiff_mem.mp hm).2 ((keys_mem ok lH nH hs).mpr k1)
  · obtain ⟨u, rfl, hu, pre⟩ := any p hpm
    rw [ok.cp s hs, ok.cp u hu]
    exact pre.map _
  · obtain ⟨u, rfl, hu, pre⟩ := any p hpm
    exact start_slash _
  · obtain ⟨u, rfl, hu, pre⟩ := any p hpm
    exact Nat.le_trans (pth_len h3 hp hu).1 (by decide)
  · rw [List.length_append]
    have := mdiff_len (keysOf (knownL names i) (doc (nmO names i) H)) (keysOf (knownL names i) (doc (nmO names i) (T.put H s (T.sub G s))))
    have := mdiff_len (keysOf (knownL names i) (doc (nmO names i) (T.put H s (T.sub G s)))) (keysOf (knownL names i) (doc (nmO names i) H))
    have := kl hH
    have := kl hF
    omega
  · unfold pyCommon
    rw [ok.cp s hs]; rfl
  · rw [ok.cp s hs]; exact pl.2.1
  · rw [ok.cp s hs]; exact Nat.le_trans pl.2.2 (by decide)
  · obtain ⟨u, rfl, hu, pre, hg⟩ := pw x hx
    exact fun q => (keys_mem ok lG nG hu).mp q hg
  · obtain ⟨u, rfl, hu, pre, hg⟩ := pc x hx
    exact (keys_mem ok lG nG hu).mpr hg
include hi h3 hp fi in
theorem trees_ok : TreesOk (toldL names i) trees := ⟨fi.n3, fi.low, fun x hx => by
  obtain ⟨y, hy, rfl⟩ := List.mem_map.mp hx
  exact (name_facts hi hp hy).2.1, by unfold toldL; rw [List.length_map]; exact h3⟩
include hi h3 hn hp fi ht0 in
theorem found_ok : FoundOk (knownL names i) (textsL names i trees) (PO names i trees) := by
  have ok := paths_ok hi h3 hn hp
  refine ⟨fun p hpm => ?_, fun t ht => ?_, ?_, fun t ht => ?_, ?_, ?_, fun l hl hm => ?_, ?_⟩
  · rcases List.mem_cons.mp hpm with rfl | hpm
    · decide
    · exact (name_facts hi hp (List.of_mem_zip hpm).2).1
  · rw [textsL_us fi, List.mem_map] at ht
    obtain ⟨U, hU, rfl⟩ := ht
    exact ⟨U, adm_self U _ hU (us_low fi U hU).2, rfl⟩
  · unfold textsL
    intro e; exact ht0 (List.map_eq_nil_iff.mp e)
  · have := (textsF_bound (trees_ok hi h3 hp fi) 4 [] (by decide) (by decide)).2 t ((PO_all fi).mp ht)
    exact Nat.le_trans this (by decide)
  · rintro t ⟨U, hU, rfl⟩
    obtain ⟨lU, nU⟩ := adm_low4 fi hU
    have := us_sizes fi hU
    rw [keys_doc ok lU nU, List.length_map, rows_len ok]; omega
  · rintro t ⟨U, hU, rfl⟩
    obtain ⟨lU, nU⟩ := adm_low4 fi hU
    exact keys_nodup ok lU nU
  · exact Nat.lt_of_le_of_lt (len_of_sub hl fun x hx => (PO_all fi).mp (hm x hx)) (all_cnt fi)
  · rintro here text path ⟨H, hH, rfl⟩ ht k1 k2
    rw [textsL_us fi, List.mem_map] at ht
    obtain ⟨G, hG, rfl⟩ := ht
    obtain ⟨lH, nH⟩ := adm_low4 fi hH
    obtain ⟨lG, nG⟩ := us_low fi G hG
    obtain ⟨s, rfl, hs, h1⟩ := keys_row ok lH nH k1
    have h2 := (keys_mem ok lG nG hs).mp k2
    rw [splice_doc ok lH nH lG nG h1 h2]
    exact step_ok hi h3 hn hp fi hH hG hs h1 h2
include hi h3 hn hp fi ht0 in
theorem found_all {N : Nat} (h1 : ∀ j, j < N → j < (foundAt (knownL names i) (textsL names i trees) j).length) (h2 : (foundAt (knownL names i) (textsL names i trees) N).length ≤ N) :
    (foundAt (knownL names i) (textsL names i trees) N).Perm (allL names i trees) := by
  have ok := paths_ok hi h3 hn hp
  have fo := found_ok hi h3 hn hp fi ht0
  have inv := foundAt_inv fo N h1
  refine perm_of inv.1 (all_nodup hi h3 hn hp fi) fun x => ⟨fun hx => (PO_all fi).mp (inv.2 x hx), fun hx => ?_⟩
  obtain ⟨U, hU, rfl⟩ := (PO_all fi).mpr hx
  have hS : ∀ H G r, (Adm (usO trees) H ∧ doc (nmO names i) H ∈ foundAt (knownL names i) (textsL names i trees) N) → G ∈ usO trees → T.sub H r ≠ .nil → T.sub G r ≠ .nil → (Adm (usO trees) (T.put H r (T.sub G r)) ∧ doc (nmO names i) (T.put H r (T.sub G r)) ∈ foundAt (knownL names i) (textsL names i trees) N) := by
    rintro H G r ⟨hH, hm⟩ hG k1 k2
    obtain ⟨lH, nH⟩ := adm_low4 fi hH
    obtain ⟨lG, nG⟩ := us_low fi G hG
    have hr := rows_val lH k1
    refine ⟨adm_put r _ H G hH hG k1 k2, ?_⟩
    rw [← splice_doc ok lH nH lG nG k1 k2]
    exact found_closed (knownL names i) (textsL names i trees) h1 h2 hm (by rw [textsL_us fi]; exact List.mem_map.mpr ⟨G, hG, rfl⟩) ((keys_mem ok lH nH hr).mpr k1) ((keys_mem ok lG nG hr).mpr k2)
  obtain ⟨u0, hu0⟩ : ∃ u0, u0 ∈ usO trees := by
    cases htr : trees with
    | nil => exact (ht0 htr).elim
    | cons a l => exact ⟨_, List.mem_map.mpr ⟨a, List.mem_cons_self, rfl⟩⟩
  have n0 := (us_low fi u0 hu0).2
  have d0 : doc (nmO names i) u0 ∈ foundAt (knownL names i) (textsL names i trees) N := by
    have p0 : foundAt (knownL names i) (textsL names i trees) 0 <+: foundAt (knownL names i) (textsL names i trees) N := by
      have := found_pre (knownL names i) (textsL names i trees) 0 N
      rwa [Nat.zero_add] at this
    refine p0.subset (firsts_mem _ ?_)
    rw [textsL_us fi]; exact List.mem_map.mpr ⟨u0, hu0, rfl⟩
  have := reach (fun H => Adm (usO trees) H ∧ doc (nmO names i) H ∈ foundAt (knownL names i) (textsL names i trees) N) (usO trees) hS U [] u0 ⟨adm_self u0 _ hu0 n0, d0⟩ n0 (by
    have : (usO trees).map (T.sub · []) = usO trees := List.map_id _
    rw [this]; exact hU)
  exact this.2
include hi h3 hn hp fi ht0 in
theorem law_facts : LawFacts names i trees := ⟨hi, h3, fi.n3, ht0, fi.low, fun x hx => by
    obtain ⟨a, b, c, d, e, _⟩ := name_facts hi hp hx
    exact ⟨a, b, c, d, e⟩, told_nodup hi h3 hn hp, fun t ht => (first_doc fi ht).1, ⟨PO names i trees, found_ok hi h3 hn hp fi ht0, fun N h1 h2 => found_all hi h3 hn hp fi ht0 h1 h2⟩, all_cnt fi⟩
end
theorem law_all (ns : List Int) : ∃ i : Nat, ((cellsOf ns).getD 0 0).fmod 3 = (i : Int) ∧ LawFacts (sortS (namesOf ns)) i (treesOf ns) := by
  obtain ⟨h3, hn, hp⟩ := names_facts ns
  obtain ⟨fi, h0⟩ := trees_fine ns
  have a := Int.fmod_nonneg_of_pos ((cellsOf ns).getD 0 0) (show (0 : Int) < 3 by decide)
  have b := Int.fmod_lt_of_pos ((cellsOf ns).getD 0 0) (show (0 : Int) < 3 by decide)
  exact ⟨(((cellsOf ns).getD 0 0).fmod 3).toNat, by omega, law_facts (by omega) h3 hn hp fi h0⟩
end Mine
end

noncomputable section
open PySem PySem.W PyProof.Rows
namespace Mine
theorem repL_ints {w : World} {R : Heap} {vs : List Value} {ns : List Int} (h : IntsAre vs ns) : RepL w R (ns.map .int) vs := by
  induction h with
  | nil => exact .nil
  | cons n t _ ih => exact .cons (.int n t) ih
theorem top_law {w : World} {mg mb : Str → Option Value} {s₁ : Shared} {ns : List Int} {vs : List Value} {a fa : Addr} (K : (KK w).In s₁.heap) (g : s₁.heap.Ns mainGlobals mg) (b : s₁.heap.Ns builtinsNs mb) (hb : ∀ x : Str, x ≠ "__name__" → mb x = bootBuiltins x)
    (lim : s₁.heap.NoLimit) (hL : s₁.heap.IsList a vs.toArray) (hI : IntsAre vs ns) (hf : mg "law" = some (.ref fa)) {d : D} (c : Contract w 8 (.ref 203) [.list (ns.map .int)] (.bool true)) :
    codeAny (MM w) callerA (.call (.ref fa) ⟨[.ref a], []⟩) (fun r s' => r = .ok (.ret (.bool true)) ∧ Le s₁.heap s'.heap ∧ ∃ h t d, s' = { s₁ with heap := h, toks := t, drawn := d }) s₁ := by
  have e : mg "law" = some (.ref 203) := mg_of K g (by kernel_rfl)
  rw [hf] at e
  cases e
  have hn : frs callerA = [] := rfl
  refine codeAny_mono (c callerA s₁.heap s₁ [.ref a] ⟨by decide, by decide, rfl, fun _ => rfl⟩ ?_ ⟨K, ?_, ⟨mg, g⟩, ⟨mb, b, hb⟩, lim⟩ (.refl _) ?_ (.cons (.list hL (repL_ints hI)) .nil)) ?_
  · intro envs h e he
    cases h; cases he
  · intro a o _ h; rw [hn] at h; cases h
  · intro f h; rw [hn] at h; cases h
  · rintro r s' ⟨v, R', rfl, S, P, L, q⟩
    cases q
    exact ⟨rfl, S.le.trans L, S.same⟩
end Mine
end

open PySem PySem.W PyProof.Rows
theorem PySem.Challenge.cw_rt0063_01_holds : PySem.Challenge.rw_rt0063_01.Holds :=
  Mine.hd (by
  intro w s₀ s₁ mg mb G Y fa o pm cd doc dV kV ho hd hcd hD hmg hg args vals as hpre hlay hrd hwl hlo
  have KX := kIn_of Y
  have X := (Ground.X G).1
  have V := (Ground.X G).2
  refine Ground.open G ?_
  intro T B D TE TW
  clear ho hd hcd hD Y
  wrow_args hpre hlay hrd hwl hlo
  rename_i ns _ _ _ _ _ _ _ a vs _ hL _ _ _ hI _ hlen _
  have hlen' : ns.length ≤ 63 := by
    by_cases h : 63 < ns.length
    · exact (hlen (by exact_mod_cast h)).elim
    · omega
  obtain ⟨i, hi, lf⟩ := Mine.law_all ns
  refine enter_call (codeAny_mono (Mine.top_law KX T.g T.b T.builtins T.nolimit hL hI (fa := fa) ?_ (d := .none) (Mine.c_law w ns (by omega) i hi lf)) ?_)
  · exact hmg
  · rintro r s' ⟨rfl, l, h, t, d, rfl⟩
    refine ⟨.inl ⟨.bool true, .bool true, [], rfl, ?_, .bool true, ?_, ?_⟩, .of_keep l, rfl, .of_eq hg⟩
    · intro cls; rfl
    · exact postW_of (r := rw_rt0063_01.row.toRowW) (X := true) rfl (by show WTm.value [] (.eq .res (.lit (.bool true))) _ = _; simp [WTm.value, same]) rfl
    · intro _; exact ⟨.nil, fun a h => by cases h⟩)
