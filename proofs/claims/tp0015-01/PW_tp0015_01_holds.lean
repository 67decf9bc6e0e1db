import PyProof.Rows.All
import Wide.All
import OpenK.AllK
import Wide.FinOn
import PySem.Challenge.RW_tp0015_01
set_option compiler.extract_closed false
open PySem PySem.W PyProof.Rows
set_option Elab.async false
namespace Mine
/-! the objects that the proof names: the functions by their places in the given program -/
noncomputable def fnObj (mod : Value) (code : Addr) (pre : Str) : List Stmt → Obj
  | .FunctionDef name args body _ _ _ scope _ _ _ :: _ => { cls := .type "function", data := .func { name := name, qualname := pre ++ name, params := args, body := .stmts body, scope := scope, globals := 3, closure := [], defaults := .none, kwdefaults := .none, pyModule := mod, code := .ref code } }
  | _ => { cls := .none, data := .plain }
noncomputable def topAt (i : Nat) : List Stmt := PySem.Challenge.pw_tp0015_01.main.body.drop i
noncomputable def inClass : List Stmt → Nat → List Stmt
  | .ClassDef _ _ _ body _ _ _ _ _ _ _ :: _, j => body.drop j
  | _, _ => []

/-- the premise ties the term to its constants, so that no second copy of it is made -/
abbrev keep {p : Prop} {α : Type} (_ : p) (a : α) : α := a
noncomputable def frag (P : Params) : Frag := keep (p := topAt 0 = PySem.Challenge.pw_tp0015_01.main.body.drop 0) rfl [
  (2, { cls := Value.none, data := Data.dict #[{ hash := PyData.keyHash P (Str.ofString "type.__subclasses__.Exception.0"), key := Value.str (Str.ofString "type.__subclasses__.Exception.0") 230, val := Value.int 45 0 }, { hash := PyData.keyHash P (Str.ofString "type.__subclasses__.Exception.n"), key := Value.str (Str.ofString "type.__subclasses__.Exception.n") 231, val := Value.int 1 0 }] 2 }),
  (3, { cls := Value.type "dict", data := Data.dict #[{ hash := PyData.keyHash P (Str.ofString "__name__"), key := Value.str (Str.ofString "__name__") 165, val := Value.str (Str.ofString "law_tp0015_01") 381 }, { hash := PyData.keyHash P (Str.ofString "__doc__"), key := Value.str (Str.ofString "__doc__") 166, val := Value.none }, { hash := PyData.keyHash P (Str.ofString "__package__"), key := Value.str (Str.ofString "__package__") 167, val := Value.none }, { hash := PyData.keyHash P (Str.ofString "__loader__"), key := Value.str (Str.ofString "__loader__") 168, val := Value.builtin "__main__.__loader__#opaque" }, { hash := PyData.keyHash P (Str.ofString "__spec__"), key := Value.str (Str.ofString "__spec__") 169, val := Value.none }, { hash := PyData.keyHash P (Str.ofString "__annotations__"), key := Value.str (Str.ofString "__annotations__") 170, val := Value.ref 6 }, { hash := PyData.keyHash P (Str.ofString "__builtins__"), key := Value.str (Str.ofString "__builtins__") 171, val := Value.ref 4 }, { hash := PyData.keyHash P (Str.ofString "__file__"), key := Value.str (Str.ofString "__file__") 173, val := Value.str (Str.ofString "/claim/cut.py") 172 }, { hash := PyData.keyHash P (Str.ofString "__cached__"), key := Value.str (Str.ofString "__cached__") 174, val := Value.none }, { hash := PyData.keyHash P (Str.ofString "_wall"), key := Value.str (Str.ofString "_wall") 193, val := Value.ref 21 }, { hash := PyData.keyHash P (Str.ofString "NT_OFFSET"), key := Value.str (Str.ofString "NT_OFFSET") 197, val := Value.int 256 196 }, { hash := PyData.keyHash P (Str.ofString "ISTERMINAL"), key := Value.str (Str.ofString "ISTERMINAL") 204, val := Value.ref 28 }, { hash := PyData.keyHash P (Str.ofString "ISNONTERMINAL"), key := Value.str (Str.ofString "ISNONTERMINAL") 211, val := Value.ref 35 }, { hash := PyData.keyHash P (Str.ofString "Error"), key := Value.str (Str.ofString "Error") 233, val := Value.ref 45 }, { hash := PyData.keyHash P (Str.ofString "error_reply"), key := Value.str (Str.ofString "error_reply") 249, val := Value.ref 58 }, { hash := PyData.keyHash P (Str.ofString "error_proto"), key := Value.str (Str.ofString "error_proto") 265, val := Value.ref 70 }, { hash := PyData.keyHash P (Str.ofString "parse229"), key := Value.str (Str.ofString "parse229") 278, val := Value.ref 79 }, { hash := PyData.keyHash P (Str.ofString "Whitespace"), key := Value.str (Str.ofString "Whitespace") 380, val := Value.ref 141 }, { hash := PyData.keyHash P (Str.ofString "_law_lead"), key := Value.str (Str.ofString "_law_lead") 388, val := Value.ref 150 }, { hash := PyData.keyHash P (Str.ofString "_law_columns"), key := Value.str (Str.ofString "_law_columns") 399, val := Value.ref 157 }, { hash := PyData.keyHash P (Str.ofString "_law_lesser"), key := Value.str (Str.ofString "_law_lesser") 405, val := Value.ref 162 }, { hash := PyData.keyHash P (Str.ofString "_law_outline"), key := Value.str (Str.ofString "_law_outline") 411, val := Value.ref 167 }, { hash := PyData.keyHash P (Str.ofString "_law_least"), key := Value.str (Str.ofString "_law_least") 428, val := Value.ref 174 }, { hash := PyData.keyHash P (Str.ofString "law"), key := Value.str (Str.ofString "law") 434, val := Value.ref 179 }] 24 }),
  (27, { cls := Value.type "code", data := Data.fields #[Value.str (Str.ofString "ISTERMINAL") 198, Value.str (Str.ofString "ISTERMINAL") 199, Value.str (Str.ofString "/claim/cut.py") 200, Value.int 6 0, Value.int 1 0, Value.int 0 0, Value.int 0 0, Value.int 3 0, Value.ref 22, Value.bool true, Value.int 181 0, Value.ref 23, Value.none, Value.ref 24, Value.ref 25, Value.ref 26, Value.int 202 0, Value.int 6 0, Value.str (Str.ofString "/claim/cut.py") 203] }),
  (28, fnObj (Value.str (Str.ofString "cpy313.token") 194) 27 "" (topAt 3)),
  (34, { cls := Value.type "code", data := Data.fields #[Value.str (Str.ofString "ISNONTERMINAL") 205, Value.str (Str.ofString "ISNONTERMINAL") 206, Value.str (Str.ofString "/claim/cut.py") 207, Value.int 8 0, Value.int 1 0, Value.int 0 0, Value.int 0 0, Value.int 3 0, Value.ref 29, Value.bool true, Value.int 181 0, Value.ref 30, Value.none, Value.ref 31, Value.ref 32, Value.ref 33, Value.int 209 0, Value.int 8 0, Value.str (Str.ofString "/claim/cut.py") 210] }),
  (35, fnObj (Value.str (Str.ofString "cpy313.token") 194) 34 "" (topAt 4)),
  (78, { cls := Value.type "code", data := Data.fields #[Value.str (Str.ofString "parse229") 266, Value.str (Str.ofString "parse229") 267, Value.str (Str.ofString "/claim/cut.py") 268, Value.int 17 0, Value.int 2 0, Value.int 0 0, Value.int 0 0, Value.int 3 0, Value.ref 73, Value.bool true, Value.int 181 0, Value.ref 74, Value.none, Value.ref 75, Value.ref 76, Value.ref 77, Value.int 276 0, Value.int 17 0, Value.str (Str.ofString "/claim/cut.py") 277] }),
  (79, fnObj (Value.str (Str.ofString "cpy313.ftplib") 212) 78 "" (topAt 9)),
  (95, { cls := Value.type "code", data := Data.fields #[Value.str (Str.ofString "__init__") 298, Value.str (Str.ofString "Whitespace.__init__") 299, Value.str (Str.ofString "/claim/cut.py") 300, Value.int 38 0, Value.int 2 0, Value.int 0 0, Value.int 0 0, Value.int 3 0, Value.ref 90, Value.bool true, Value.int 181 0, Value.ref 91, Value.none, Value.ref 92, Value.ref 93, Value.ref 94, Value.int 310 0, Value.int 38 0, Value.str (Str.ofString "/claim/cut.py") 311] }),
  (96, fnObj (Value.str (Str.ofString "cpy313.tabnanny") 279) 95 "Whitespace." (inClass (topAt 11) 1)),
  (102, { cls := Value.type "code", data := Data.fields #[Value.str (Str.ofString "longest_run_of_spaces") 313, Value.str (Str.ofString "Whitespace.longest_run_of_spaces") 314, Value.str (Str.ofString "/claim/cut.py") 315, Value.int 61 0, Value.int 1 0, Value.int 0 0, Value.int 0 0, Value.int 3 0, Value.ref 97, Value.bool true, Value.int 181 0, Value.ref 98, Value.none, Value.ref 99, Value.ref 100, Value.ref 101, Value.int 319 0, Value.int 61 0, Value.str (Str.ofString "/claim/cut.py") 320] }),
  (103, fnObj (Value.str (Str.ofString "cpy313.tabnanny") 279) 102 "Whitespace." (inClass (topAt 11) 2)),
  (109, { cls := Value.type "code", data := Data.fields #[Value.str (Str.ofString "indent_level") 322, Value.str (Str.ofString "Whitespace.indent_level") 323, Value.str (Str.ofString "/claim/cut.py") 324, Value.int 65 0, Value.int 2 0, Value.int 0 0, Value.int 0 0, Value.int 3 0, Value.ref 104, Value.bool true, Value.int 181 0, Value.ref 105, Value.none, Value.ref 106, Value.ref 107, Value.ref 108, Value.int 331 0, Value.int 65 0, Value.str (Str.ofString "/claim/cut.py") 332] }),
  (110, fnObj (Value.str (Str.ofString "cpy313.tabnanny") 279) 109 "Whitespace." (inClass (topAt 11) 3)),
  (116, { cls := Value.type "code", data := Data.fields #[Value.str (Str.ofString "equal") 334, Value.str (Str.ofString "Whitespace.equal") 335, Value.str (Str.ofString "/claim/cut.py") 336, Value.int 72 0, Value.int 2 0, Value.int 0 0, Value.int 0 0, Value.int 3 0, Value.ref 111, Value.bool true, Value.int 181 0, Value.ref 112, Value.none, Value.ref 113, Value.ref 114, Value.ref 115, Value.int 339 0, Value.int 72 0, Value.str (Str.ofString "/claim/cut.py") 340] }),
  (117, fnObj (Value.str (Str.ofString "cpy313.tabnanny") 279) 116 "Whitespace." (inClass (topAt 11) 4)),
  (130, { cls := Value.type "code", data := Data.fields #[Value.str (Str.ofString "less") 350, Value.str (Str.ofString "Whitespace.less") 351, Value.str (Str.ofString "/claim/cut.py") 352, Value.int 78 0, Value.int 2 0, Value.int 0 0, Value.int 0 0, Value.int 3 0, Value.ref 125, Value.bool true, Value.int 181 0, Value.ref 126, Value.none, Value.ref 127, Value.ref 128, Value.ref 129, Value.int 357 0, Value.int 78 0, Value.str (Str.ofString "/claim/cut.py") 358] }),
  (131, fnObj (Value.str (Str.ofString "cpy313.tabnanny") 279) 130 "Whitespace." (inClass (topAt 11) 6)),
  (140, { cls := Value.type "dict", data := Data.dict #[{ hash := PyData.keyHash P (Str.ofString "__module__"), key := Value.str (Str.ofString "__module__") 288, val := Value.str (Str.ofString "cpy313.tabnanny") 279 }, { hash := PyData.keyHash P (Str.ofString "__firstlineno__"), key := Value.str (Str.ofString "__firstlineno__") 292, val := Value.int 35 291 }, { hash := PyData.keyHash P (Str.ofString "S"), key := Value.str (Str.ofString "S") 296, val := Value.str (Str.ofString " ") 294 }, { hash := PyData.keyHash P (Str.ofString "T"), key := Value.str (Str.ofString "T") 297, val := Value.str (Str.ofString "\t") 295 }, { hash := PyData.keyHash P (Str.ofString "__init__"), key := Value.str (Str.ofString "__init__") 312, val := Value.ref 96 }, { hash := PyData.keyHash P (Str.ofString "longest_run_of_spaces"), key := Value.str (Str.ofString "longest_run_of_spaces") 321, val := Value.ref 103 }, { hash := PyData.keyHash P (Str.ofString "indent_level"), key := Value.str (Str.ofString "indent_level") 333, val := Value.ref 110 }, { hash := PyData.keyHash P (Str.ofString "equal"), key := Value.str (Str.ofString "equal") 341, val := Value.ref 117 }, { hash := PyData.keyHash P (Str.ofString "not_equal_witness"), key := Value.str (Str.ofString "not_equal_witness") 349, val := Value.ref 124 }, { hash := PyData.keyHash P (Str.ofString "less"), key := Value.str (Str.ofString "less") 359, val := Value.ref 131 }, { hash := PyData.keyHash P (Str.ofString "not_less_witness"), key := Value.str (Str.ofString "not_less_witness") 367, val := Value.ref 138 }, { hash := PyData.keyHash P (Str.ofString "__static_attributes__"), key := Value.str (Str.ofString "__static_attributes__") 373, val := Value.ref 139 }, { hash := PyData.keyHash P (Str.ofString "__dict__"), key := Value.str (Str.ofString "__dict__") 375, val := Value.ref 142 }, { hash := PyData.keyHash P (Str.ofString "__weakref__"), key := Value.str (Str.ofString "__weakref__") 377, val := Value.ref 143 }, { hash := PyData.keyHash P (Str.ofString "__doc__"), key := Value.str (Str.ofString "__doc__") 378, val := Value.none }] 4 }),
  (141, { cls := Value.type "type", data := Data.cls { name := Str.ofString "Whitespace", bases := [Value.type "object"], mro := [Value.ref 141, Value.type "object"], ns := 140, qualname := Str.ofString "Whitespace" }, slots := #[none, none, some (Value.str (Str.ofString "Whitespace") 281), some (Value.str (Str.ofString "Whitespace") 289), some (Value.builtin "object.__new__"), some (Value.bool true)] }),
  (149, { cls := Value.type "code", data := Data.fields #[Value.str (Str.ofString "_law_lead") 383, Value.str (Str.ofString "_law_lead") 384, Value.str (Str.ofString "/claim/cut.py") 385, Value.int 92 0, Value.int 1 0, Value.int 0 0, Value.int 0 0, Value.int 3 0, Value.ref 146, Value.bool true, Value.int 181 0, Value.ref 147, Value.none, Value.none, Value.none, Value.ref 148, Value.int 386 0, Value.int 92 0, Value.str (Str.ofString "/claim/cut.py") 387] }),
  (150, fnObj (Value.str (Str.ofString "law_tp0015_01") 381) 149 "" (topAt 13)),
  (156, { cls := Value.type "code", data := Data.fields #[Value.str (Str.ofString "_law_columns") 389, Value.str (Str.ofString "_law_columns") 390, Value.str (Str.ofString "/claim/cut.py") 391, Value.int 94 0, Value.int 1 0, Value.int 0 0, Value.int 0 0, Value.int 3 0, Value.ref 151, Value.bool true, Value.int 181 0, Value.ref 152, Value.none, Value.ref 153, Value.ref 154, Value.ref 155, Value.int 397 0, Value.int 94 0, Value.str (Str.ofString "/claim/cut.py") 398] }),
  (157, fnObj (Value.str (Str.ofString "law_tp0015_01") 381) 156 "" (topAt 14)),
  (161, { cls := Value.type "code", data := Data.fields #[Value.str (Str.ofString "_law_lesser") 400, Value.str (Str.ofString "_law_lesser") 401, Value.str (Str.ofString "/claim/cut.py") 402, Value.int 102 0, Value.int 2 0, Value.int 0 0, Value.int 0 0, Value.int 3 0, Value.ref 158, Value.bool true, Value.int 181 0, Value.ref 159, Value.none, Value.none, Value.none, Value.ref 160, Value.int 403 0, Value.int 102 0, Value.str (Str.ofString "/claim/cut.py") 404] }),
  (162, fnObj (Value.str (Str.ofString "law_tp0015_01") 381) 161 "" (topAt 15)),
  (166, { cls := Value.type "code", data := Data.fields #[Value.str (Str.ofString "_law_outline") 406, Value.str (Str.ofString "_law_outline") 407, Value.str (Str.ofString "/claim/cut.py") 408, Value.int 104 0, Value.int 1 0, Value.int 0 0, Value.int 0 0, Value.int 3 0, Value.ref 163, Value.bool true, Value.int 181 0, Value.ref 164, Value.none, Value.none, Value.none, Value.ref 165, Value.int 409 0, Value.int 104 0, Value.str (Str.ofString "/claim/cut.py") 410] }),
  (167, fnObj (Value.str (Str.ofString "law_tp0015_01") 381) 166 "" (topAt 16)),
  (173, { cls := Value.type "code", data := Data.fields #[Value.str (Str.ofString "_law_least") 412, Value.str (Str.ofString "_law_least") 413, Value.str (Str.ofString "/claim/cut.py") 414, Value.int 112 0, Value.int 2 0, Value.int 0 0, Value.int 0 0, Value.int 3 0, Value.ref 168, Value.bool true, Value.int 181 0, Value.ref 169, Value.none, Value.ref 170, Value.ref 171, Value.ref 172, Value.int 426 0, Value.int 112 0, Value.str (Str.ofString "/claim/cut.py") 427] }),
  (174, fnObj (Value.str (Str.ofString "law_tp0015_01") 381) 173 "" (topAt 17)),
  (178, { cls := Value.type "code", data := Data.fields #[Value.str (Str.ofString "law") 429, Value.str (Str.ofString "law") 430, Value.str (Str.ofString "/claim/cut.py") 431, Value.int 126 0, Value.int 1 0, Value.int 0 0, Value.int 0 0, Value.int 3 0, Value.ref 175, Value.bool true, Value.int 181 0, Value.ref 176, Value.none, Value.none, Value.none, Value.ref 177, Value.int 432 0, Value.int 126 0, Value.str (Str.ofString "/claim/cut.py") 433] }),
  (179, fnObj (Value.str (Str.ofString "law_tp0015_01") 381) 178 "" (topAt 18))]
def fragAs : List Nat := [2, 3, 27, 28, 34, 35, 78, 79, 95, 96, 102, 103, 109, 110, 116, 117, 130, 131, 140, 141, 149, 150, 156, 157, 161, 162, 166, 167, 173, 174, 178, 179]

end Mine
/-! part F1 -/
open PySem PySem.W PySem.Calls PyProof.Rows
set_option Elab.async false
namespace Mine

def Ext (g h : Heap) : Prop := ∀ b o, g.get? b = some o → h.get? b = some o
theorem Ext.refl (h : Heap) : Ext h h := fun _ _ e => e
theorem Ext.trans {a b c : Heap} (x : Ext a b) (y : Ext b c) : Ext a c := fun _ _ e => y _ _ (x _ _ e)

def upd (m : Str → Option Value) (n : Str) (v : Value) : Str → Option Value := fun y => if y = n then some v else m y
theorem upd_eq (m : Str → Option Value) (n : Str) (v : Value) : upd m n v n = some v := if_pos rfl
theorem upd_ne (m : Str → Option Value) {n y : Str} (v : Value) (h : y ≠ n) : upd m n v y = m y := if_neg h

abbrev Own := List (Addr × (Obj → Prop))
abbrev addrs (own : Own) : List Addr := own.map (·.1)

structure St (s₀ : Shared) (g : Heap) (env : Env) (oc : List (Str × Addr)) (m : Str → Option Value) (own : Own) (s : Shared) : Prop where
  same : ∃ h tk, s = { s₀ with heap := h, toks := tk }
  keep : Ext g s.heap
  ns : ∃ ml, s.heap.Ns env.locals ml ∧ ∀ n, env.kindOf n = some .local → ml n = m n
  cell : ∀ n c, oc.lookup n = some c → s.heap.IsCell c (m n)
  mine : ∀ p ∈ own, ∃ o, s.heap.get? p.1 = some o ∧ p.2 o
  gL : g.get? env.locals = none
  gC : ∀ n c, oc.lookup n = some c → g.get? c = none ∧ c ≠ env.locals
  aC : ∀ n c n' c', oc.lookup n = some c → oc.lookup n' = some c' → c = c' → n = n'
  gO : ∀ p ∈ own, g.get? p.1 = none ∧ p.1 ≠ env.locals ∧ ∀ n c, oc.lookup n = some c → p.1 ≠ c
  aO : own.Pairwise fun x y => x.1 ≠ y.1

namespace St
variable {s₀ s s' : Shared} {g g' : Heap} {env : Env} {oc : List (Str × Addr)} {m : Str → Option Value} {own pre post : Own} {a : Addr} {P : Obj → Prop}

/-- a step that changes nothing that stands but what lies apart -/
theorem step (x : St s₀ g env oc m own s) (h' : Heap) (tk : Nat) (wr : List Addr)
    (hk : ∀ b o, b ∉ wr → s.heap.get? b = some o → h'.get? b = some o)
    (hg : ∀ b ∈ wr, g.get? b = none) (hL : env.locals ∉ wr) (hC : ∀ n c, oc.lookup n = some c → c ∉ wr) (hO : ∀ p ∈ own, p.1 ∉ wr) :
    St s₀ g env oc m own { s with heap := h', toks := tk } where
  same := by obtain ⟨h, t, rfl⟩ := x.same; exact ⟨h', tk, rfl⟩
  keep := fun b o e => hk b o (fun hb => by rw [hg b hb] at e; cases e) (x.keep b o e)
  ns := by obtain ⟨ml, a, b⟩ := x.ns; exact ⟨ml, a.at' fun o e => hk _ o hL e, b⟩
  cell := fun n c e => by obtain ⟨o, a, b⟩ := x.cell n c e; exact ⟨o, hk _ o (hC n c e) a, b⟩
  mine := fun p hp => by obtain ⟨o, a, b⟩ := x.mine p hp; exact ⟨o, hk _ o (hO p hp) a, b⟩
  gL := x.gL
  gC := x.gC
  aC := x.aC
  gO := x.gO
  aO := x.aO

theorem keeps (x : St s₀ g env oc m own s) (k : Keeps s s') : St s₀ g env oc m own s' := by
  obtain ⟨h', tk, rfl, hk⟩ := k
  exact x.step h' tk [] (fun b o _ e => hk b o e) (fun _ h => nomatch h) (fun h => nomatch h) (fun _ _ _ h => nomatch h) (fun _ _ h => nomatch h)

theorem toks (x : St s₀ g env oc m own s) (tk : Nat) : St s₀ g env oc m own { s with toks := tk } := x.keeps ⟨s.heap, tk, rfl, fun _ _ e => e⟩

theorem done (x : St s₀ g env oc m own s) (hb : Ext s₀.heap g) : Keeps s₀ s := by
  obtain ⟨h, tk, rfl⟩ := x.same
  exact ⟨h, tk, rfl, hb.trans x.keep⟩

/-- what does not stand in s lies apart from all -/
theorem apart (x : St s₀ g env oc m own s) {a : Addr} (ha : s.heap.get? a = none) : g.get? a = none ∧ a ≠ env.locals ∧ (∀ n c, oc.lookup n = some c → c ≠ a) ∧ ∀ p ∈ own, p.1 ≠ a := by
  refine ⟨?_, ?_, ?_, ?_⟩
  · cases e : g.get? a with
    | none => rfl
    | some o => rw [x.keep a o e] at ha; cases ha
  · rintro rfl; obtain ⟨ml, ⟨o, _, _, e, _⟩, _⟩ := x.ns; rw [e] at ha; cases ha
  · rintro n c e rfl; obtain ⟨o, e, _⟩ := x.cell n c e; rw [e] at ha; cases ha
  · rintro p hp rfl; obtain ⟨o, e, _⟩ := x.mine p hp; rw [e] at ha; cases ha

/-- a new object onto the list of one's own -/
theorem push_own (x : St s₀ g env oc m own s) {a : Addr} {P : Obj → Prop} (hn : s.heap.get? a = none) (k : Keeps s s') {o : Obj} (ho : s'.heap.get? a = some o) (hp : P o) :
    St s₀ g env oc m ((a, P) :: own) s' := by
  have y := x.keeps k
  obtain ⟨h1, h2, h3, h4⟩ := x.apart hn
  exact { y with
    mine := fun p hp' => by
      rcases List.mem_cons.mp hp' with rfl | hp'
      · exact ⟨o, ho, hp⟩
      · exact y.mine p hp'
    gO := fun p hp' => by
      rcases List.mem_cons.mp hp' with rfl | hp'
      · exact ⟨h1, h2, fun n c e q => h3 n c e q.symm⟩
      · exact y.gO p hp'
    aO := List.pairwise_cons.mpr ⟨fun p hp' q => h4 p hp' q.symm, y.aO⟩ }

/-- an object that lies apart is taken for one's own -/
theorem add_own (x : St s₀ g env oc m own s) {o : Obj} (ho : s.heap.get? a = some o) (hp : P o) (h1 : g.get? a = none) (h2 : a ≠ env.locals) (h3 : ∀ n c, oc.lookup n = some c → a ≠ c) (h4 : ∀ p ∈ own, p.1 ≠ a) :
    St s₀ g env oc m ((a, P) :: own) s :=
  { x with
    mine := fun p hp' => by
      rcases List.mem_cons.mp hp' with rfl | hp'
      · exact ⟨o, ho, hp⟩
      · exact x.mine p hp'
    gO := fun p hp' => by
      rcases List.mem_cons.mp hp' with rfl | hp'
      · exact ⟨h1, h2, h3⟩
      · exact x.gO p hp'
    aO := List.pairwise_cons.mpr ⟨fun p hp' q => h4 p hp' q.symm, x.aO⟩ }

/-- fewer objects of one's own -/
theorem drop_own (x : St s₀ g env oc m own s) {own' : Own} (h : own'.Sublist own) : St s₀ g env oc m own' s :=
  { x with mine := fun p hp => x.mine p (h.subset hp), gO := fun p hp => x.gO p (h.subset hp), aO := x.aO.sublist h }

theorem perm_own (x : St s₀ g env oc m own s) {own' : Own} (h : own'.Perm own) : St s₀ g env oc m own' s :=
  { x with mine := fun p hp => x.mine p (h.mem_iff.mp hp), gO := fun p hp => x.gO p (h.mem_iff.mp hp), aO := (h.pairwise_iff fun {a b} (n : a.1 ≠ b.1) => Ne.symm n).mpr x.aO }

/-- weaker words of one's own -/
theorem weak_head (x : St s₀ g env oc m ((a, P) :: own) s) {P' : Obj → Prop} (h : ∀ o, P o → P' o) : St s₀ g env oc m ((a, P') :: own) s :=
  { x with
    mine := fun p hp => by
      rcases List.mem_cons.mp hp with rfl | hp
      · obtain ⟨o, e, q⟩ := x.mine _ (.head _); exact ⟨o, e, h o q⟩
      · exact x.mine p (.tail _ hp)
    gO := fun p hp => by
      rcases List.mem_cons.mp hp with rfl | hp
      · exact x.gO (a, P) (.head _)
      · exact x.gO p (.tail _ hp)
    aO := List.pairwise_cons.mpr ⟨(List.pairwise_cons.mp x.aO).1, (List.pairwise_cons.mp x.aO).2⟩ }

/-- the one object at the i-th place is changed -/
theorem set_own (x : St s₀ g env oc m (pre ++ (a, P) :: post) s) {h' : Heap} {tk : Nat} {P' : Obj → Prop} {o : Obj} (hs : ∀ b o, b ≠ a → s.heap.get? b = some o → h'.get? b = some o) (ho : h'.get? a = some o) (hp : P' o) :
    St s₀ g env oc m (pre ++ (a, P') :: post) { s with heap := h', toks := tk } := by
  have hm : (a, P) ∈ pre ++ (a, P) :: post := List.mem_append_right _ (.head _)
  obtain ⟨ga, La, ca⟩ := x.gO _ hm
  have hap := List.pairwise_append.mp x.aO
  have y : St s₀ g env oc m (pre ++ post) { s with heap := h', toks := tk } := by
    refine (x.drop_own (own' := pre ++ post) ?_).step h' tk [a] (fun b o hb e => hs b o (fun q => hb (by rw [q]; exact .head _)) e) ?_ ?_ ?_ ?_
    · exact (List.Sublist.refl pre).append (List.sublist_cons_self _ _)
    · intro b hb; rw [List.mem_singleton.mp hb]; exact ga
    · intro h; exact La (List.mem_singleton.mp h).symm
    · intro n c e h; exact ca n c e (List.mem_singleton.mp h).symm
    · intro p hp h
      have e := List.mem_singleton.mp h
      rcases List.mem_append.mp hp with q | q
      · exact hap.2.2 p q (a, P) (.head _) e
      · exact (List.pairwise_cons.mp hap.2.1).1 p q e.symm
  exact { y with
    mine := fun p hp' => by
      rcases List.mem_append.mp hp' with q | q
      · exact y.mine p (List.mem_append_left _ q)
      · rcases List.mem_cons.mp q with rfl | q
        · exact ⟨o, ho, hp⟩
        · exact y.mine p (List.mem_append_right _ q)
    gO := fun p hp' => by
      rcases List.mem_append.mp hp' with q | q
      · exact y.gO p (List.mem_append_left _ q)
      · rcases List.mem_cons.mp q with rfl | q
        · exact ⟨ga, La, ca⟩
        · exact y.gO p (List.mem_append_right _ q)
    aO := by
      refine List.pairwise_append.mpr ⟨hap.1, List.pairwise_cons.mpr ⟨fun p hp' => (List.pairwise_cons.mp hap.2.1).1 p hp', (List.pairwise_cons.mp hap.2.1).2⟩, ?_⟩
      intro p hp' q hq
      rcases List.mem_cons.mp hq with rfl | hq
      · exact hap.2.2 p hp' (a, P) (.head _)
      · exact hap.2.2 p hp' q (.tail _ hq) }

/-- a new ground: all that stands but the frame, its cells, one's own -/
theorem ground (x : St s₀ g env oc m own s) : ∃ g', Ext g g' ∧ St s₀ g' env oc m own s ∧
    ∀ b o, s.heap.get? b = some o → b ≠ env.locals → (∀ n c, oc.lookup n = some c → c ≠ b) → (∀ p ∈ own, p.1 ≠ b) → g'.get? b = some o := by
  have out : ∀ b o, g.get? b = some o → b ∉ env.locals :: own.map (·.1) := by
    intro b o e hb
    rcases List.mem_cons.mp hb with rfl | hb
    · rw [x.gL] at e; cases e
    · obtain ⟨p, hp, rfl⟩ := List.mem_map.mp hb
      rw [(x.gO p hp).1] at e; cases e
  -- cells that a look finds, no others
  let cs : List Addr := (oc.map (·.1)).filterMap fun n => oc.lookup n
  have incs : ∀ n c, oc.lookup n = some c → c ∈ cs := fun n c e => List.mem_filterMap.mpr ⟨n, List.mem_map.mpr ⟨(n, c), mem_of_lookup e, rfl⟩, e⟩
  have ofcs : ∀ c ∈ cs, ∃ n, oc.lookup n = some c := fun c hc => by obtain ⟨n, _, e⟩ := List.mem_filterMap.mp hc; exact ⟨n, e⟩
  let hl : List Addr := env.locals :: own.map (·.1) ++ cs
  refine ⟨hideAll s.heap hl, ?_, ?_, ?_⟩
  · intro b o e
    refine hideAll_get hl (x.keep b o e) fun hb => ?_
    rcases List.mem_append.mp hb with hb | hb
    · exact out b o e hb
    · obtain ⟨n, q⟩ := ofcs b hb
      rw [(x.gC n b q).1] at e; cases e
  · exact { x with
      keep := fun b o e => of_hideAll hl e
      gL := hideAll_none hl (List.mem_append_left _ (.head _))
      gC := fun n c e => ⟨hideAll_none hl (List.mem_append_right _ (incs n c e)), (x.gC n c e).2⟩
      gO := fun p hp => ⟨hideAll_none hl (List.mem_append_left _ (.tail _ (List.mem_map.mpr ⟨p, hp, rfl⟩))), (x.gO p hp).2⟩ }
  · intro b o e hL hC hO
    refine hideAll_get hl e fun hb => ?_
    rcases List.mem_append.mp hb with hb | hb
    · rcases List.mem_cons.mp hb with hb | hb
      · exact hL hb
      · obtain ⟨p, hp, q⟩ := List.mem_map.mp hb; exact hO p hp q
    · obtain ⟨n, q⟩ := ofcs b hb; exact hC n b q rfl
end St
end Mine

/-! part F2 -/
open PySem PySem.W PySem.Calls PyProof.Rows
set_option Elab.async false
namespace Mine

/-- the static part of the heap -/
structure Base (w : World) (h : Heap) : Prop where
  K : (frag w.params).In h
  lim : h.NoLimit
  names : ∃ mg mb, h.Ns mainGlobals mg ∧ h.Ns builtinsNs mb ∧ (∀ n v, nsIn (frag w.params) mainGlobals n = some (some v) → mg n = some v) ∧
    (∀ n v, nsIn (frag w.params) mainGlobals n = some none → n ≠ "__name__" → bootBuiltins n = some v → mg n = none ∧ mb n = some v)

theorem Base.keeps {w : World} {h h' : Heap} (B : Base w h) (k : Ext h h') : Base w h' where
  K := B.K.keeps k
  lim := B.lim.keeps k
  names := let ⟨mg, mb, a, b, c, d⟩ := B.names; ⟨mg, mb, a.keeps k, b.keeps k, c, d⟩

theorem Base.of {w : World} {p : Program} {loose : List Str} {mean : ExcName → Option Value} {mg mb : Str → Option Value} {h : Heap} (X : (frag w.params).In h) (T : Top p loose mean mg mb h) : Base w h where
  K := X
  lim := T.nolimit
  names := ⟨mg, mb, T.g, T.b, fun _ _ e => mg_of X T.g e, fun n _ e hn hv => ⟨mg_none_of X T.g e, (T.builtins n hn).trans hv⟩⟩

theorem Keeps.ext {s s' : Shared} (k : Keeps s s') : Ext s.heap s'.heap := by obtain ⟨h', tk, rfl, hk⟩ := k; exact hk
theorem Keeps.refl (s : Shared) : Keeps s s := ⟨s.heap, s.toks, rfl, fun _ _ e => e⟩
theorem Keeps.trans {a b c : Shared} (x : Keeps a b) (y : Keeps b c) : Keeps a c := by
  obtain ⟨h1, t1, rfl, k1⟩ := x; obtain ⟨h2, t2, rfl, k2⟩ := y
  exact ⟨h2, t2, rfl, fun b o e => k2 b o (k1 b o e)⟩
theorem Keeps.tok (s : Shared) (t : Nat) : Keeps s { s with toks := t } := ⟨s.heap, t, rfl, fun _ _ e => e⟩
theorem Keeps.push (s : Shared) (o : Obj) : Keeps s { s with heap := s.heap.push o } := ⟨_, s.toks, rfl, fun _ _ e => Heap.get?_push_of_some _ e⟩

structure Room (A : Around) (d : Nat) : Prop where
  hh : A.handled = none
  depth : A.depth + d < recursionLimit
  units : A.units + 20 * d + 100 < cLine
theorem Room.deeper {A : Around} {d : Nat} (R : Room A (d + 1)) (env : Env) : Room (A.deeper env) d :=
  ⟨R.hh, by have := R.depth; show A.depth + 1 + d < _; omega, by have := R.units; show A.units + 3 + 20 * d + 100 < _; omega⟩
theorem Room.room {A : Around} {d : Nat} (R : Room A d) : A.depth < recursionLimit := by have := R.depth; omega
theorem Room.unit {A : Around} {d : Nat} (R : Room A d) : A.units < cLine := by have := R.units; omega

section
variable {prog : Program} {w : World} {A : Around} {E : Value → Shared → Prop} {s₀ s : Shared} {g : Heap} {env : Env} {oc : List (Str × Addr)} {m : Str → Option Value} {own : Own} {n : Str} {v : Value} {pos : Pos}

/-- a captured variable -/
theorem name_f {c : Addr} {Q : Value → Shared → Prop} (hc : s.heap.IsCell c (some v)) (h : Q v s) (hl : env.kindOf n = some .cell ∨ env.kindOf n = some .free) (he : env.cells.lookup n = some c) (hk : env.scope.kind = .function)
    (hd : (n == ("__debug__" : Str)) = false) (hcd : (n == ("__classdict__" : Str)) = false) : wpAny (model prog w) A (eval (.Name n pos) env) Q E s := by
  rcases hl with hl | hl
  · exact wpAny_Name (wpAny_loadName_cell hk hl he hc h) hd
  · exact wpAny_Name (wpAny_loadName_free hk hl he hc h hcd) hd

theorem name_g {Q : Value → Shared → Prop} (B : Base w s.heap) (e : nsIn (frag w.params) mainGlobals n = some (some v)) (h : Q v s) (hl : env.kindOf n = some .globalImplicit) (hg : env.globals = mainGlobals) (hk : env.scope.kind = .function)
    (hd : (n == ("__debug__" : Str)) = false) : wpAny (model prog w) A (eval (.Name n pos) env) Q E s := by
  obtain ⟨mg, mb, a, b, c, d⟩ := B.names
  exact Name_function_global hk hl (loadGlobal_global (by rw [hg]; exact a) (c n v e) h) hd

theorem name_b {Q : Value → Shared → Prop} (B : Base w s.heap) (e : nsIn (frag w.params) mainGlobals n = some none) (hv : bootBuiltins n = some v) (h : Q v s) (hl : env.kindOf n = some .globalImplicit) (hg : env.globals = mainGlobals) (hb : env.builtins = builtinsNs) (hk : env.scope.kind = .function)
    (hn : n ≠ "__name__") (hd : (n == ("__debug__" : Str)) = false) : wpAny (model prog w) A (eval (.Name n pos) env) Q E s := by
  obtain ⟨mg, mb, a, b, c, d⟩ := B.names
  obtain ⟨h1, h2⟩ := d n v e hn hv
  exact Name_function_global hk hl (loadGlobal_builtin (by rw [hg]; exact a) h1 (by rw [hb]; exact b) h2 h) hd

theorem store_l {Q : Unit → Shared → Prop} (x : St s₀ g env oc m own s) (h : ∀ s', St s₀ g env oc (upd m n v) own s' → Q () s') (hl : env.kindOf n = some .local) (hk : env.scope.kind = .function)
    (hoc : ∀ c, oc.lookup n ≠ some c) : wpAny (model prog w) A (storeName env n v) Q E s := by
  obtain ⟨ml, a, b⟩ := x.ns
  refine wpAny_storeName_local hl a (fun h' hn' hs' => h _ ?_) (by rw [hk]; rfl)
  have ne : ∀ b o, s.heap.get? b = some o → b ≠ env.locals → h'.get? b = some o := fun b o e hb => hs'.extBut b o hb e
  exact {
    same := by obtain ⟨h₁, tk, rfl⟩ := x.same; exact ⟨h', _, rfl⟩
    keep := fun b o e => ne b o (x.keep b o e) (by rintro rfl; rw [x.gL] at e; cases e)
    ns := ⟨_, hn', fun y hy => by show (if y = n then some v else ml y) = upd m n v y; unfold upd; split; rfl; exact b y hy⟩
    cell := fun y c e => by
      have hy : y ≠ n := by rintro rfl; exact hoc c e
      rw [upd_ne m v hy]
      exact (x.cell y c e).sameBut hs' (x.gC y c e).2
    mine := fun p hp => by obtain ⟨o, e, q⟩ := x.mine p hp; exact ⟨o, ne _ o e (x.gO p hp).2.1, q⟩
    gL := x.gL, gC := x.gC, aC := x.aC, gO := x.gO, aO := x.aO }

theorem store_c {c : Addr} {Q : Unit → Shared → Prop} (x : St s₀ g env oc m own s) (h : ∀ s', St s₀ g env oc (upd m n v) own s' → Q () s') (hl : env.kindOf n = some .cell) (ho : oc.lookup n = some c) (he : env.cells.lookup n = some c) (hk : env.scope.kind = .function) :
    wpAny (model prog w) A (storeName env n v) Q E s := by
  refine wpAny_storeName_cell hk hl he (x.cell n c ho) fun h' hc' hs' => h _ ?_
  have ne : ∀ b o, s.heap.get? b = some o → b ≠ c → h'.get? b = some o := fun b o e hb => hs'.extBut b o hb e
  exact {
    same := by obtain ⟨h₁, tk, rfl⟩ := x.same; exact ⟨h', _, rfl⟩
    keep := fun b o e => ne b o (x.keep b o e) (by rintro rfl; rw [(x.gC n b ho).1] at e; cases e)
    ns := by
      obtain ⟨ml, a, b⟩ := x.ns
      exact ⟨ml, a.sameBut hs' (x.gC n c ho).2.symm, fun y hy => by rw [upd_ne m v (by rintro rfl; rw [hl] at hy; cases hy)]; exact b y hy⟩
    cell := fun y c' e => by
      by_cases hy : y = n
      · subst hy; rw [ho] at e; cases e; rw [upd_eq]; exact hc'
      · rw [upd_ne m v hy]
        exact (x.cell y c' e).sameBut hs' fun q => hy (x.aC y c' n c e ho q)
    mine := fun p hp => by obtain ⟨o, e, q⟩ := x.mine p hp; exact ⟨o, ne _ o e ((x.gO p hp).2.2 n c ho), q⟩
    gL := x.gL, gC := x.gC, aC := x.aC, gO := x.gO, aO := x.aO }
end

theorem mem_cellsFrom : ∀ (names : List (Str × NameKind)) (n : Nat) (acc : List (Str × Addr)) (p : Str × Addr), p ∈ cellsFrom n names acc → p ∈ acc ∨ (p.1, NameKind.cell) ∈ names
  | [], _, _, _, h => .inl h
  | (y, k) :: r, n, acc, p, h => by
    unfold cellsFrom at h
    split at h
    · rename_i hk
      rcases mem_cellsFrom r _ _ p h with q | q
      · rcases List.mem_cons.mp q with rfl | q
        · right; rw [← (show k = NameKind.cell from by simpa using hk)]; exact .head _
        · exact .inl q
      · exact .inr (.tail _ q)
    · rcases mem_cellsFrom r _ _ p h with q | q
      · exact .inl q
      · exact .inr (.tail _ q)

noncomputable def mOf : List (Str × Value) → (Str → Option Value) → Str → Option Value
  | [], m => m
  | (n, v) :: r, m => mOf r (upd m n v)
theorem bindL_mOf (kindOf : Str → Option NameKind) : ∀ (binds : List (Str × Value)) (m m' : Str → Option Value), (∀ n, kindOf n = some .local → m n = m' n) → ∀ n, kindOf n = some .local → bindL kindOf binds m n = mOf binds m' n
  | [], _, _, h, n, hn => h n hn
  | (x, v) :: r, m, m', h, n, hn => by
    unfold bindL mOf
    refine bindL_mOf kindOf r _ _ (fun y hy => ?_) n hn
    split
    · show (if y = x then some v else m y) = upd m' x v y
      unfold upd; split; rfl; exact h y hy
    · rename_i hx
      rw [upd_ne m' v (by rintro rfl; exact hx hy)]; exact h y hy
theorem bindC_mOf (kindOf : Str → Option NameKind) : ∀ (binds : List (Str × Value)) (m m' : Str → Option Value), (∀ n, kindOf n ≠ some .local → m n = m' n) → ∀ n, kindOf n ≠ some .local → bindC kindOf binds m n = mOf binds m' n
  | [], _, _, h, n, hn => h n hn
  | (x, v) :: r, m, m', h, n, hn => by
    unfold bindC mOf
    refine bindC_mOf kindOf r _ _ (fun y hy => ?_) n hn
    split
    · rename_i hx
      rw [upd_ne m' v (by rintro rfl; exact hy hx)]; exact h y hy
    · show (if y = x then some v else m y) = upd m' x v y
      unfold upd; split; rfl; exact h y hy

theorem lookup_mem' {α : Type} {l : List (Str × α)} {n : Str} {c : α} (h : l.lookup n = some c) : (n, c) ∈ l := mem_of_lookup h

section
variable {prog : Program} {w : World} {A : Around} {E : Value → Shared → Prop} {s : Shared}
/-- entering a def of the text -/
theorem enterC {R' : Result → Shared → Prop} {a : Addr} {o : Obj} {fd : FuncData} {body : List Stmt} {vals : List Value} {binds : List (Str × Value)} {d : Nat}
    (B : Base w s.heap) (R : Room A (d + 1)) (ho : (frag w.params).lookup a = some o) (hdata : o.data = .func fd) (hcd : codeIn (frag w.params) fd.code fd.qualname = true)
    (hbody : fd.body = .stmts body) (hbind : bindArgs fd ⟨vals, []⟩ = pure binds) (hclo : fd.closure = [])
    (hkinds : (binds.all fun y => fd.scope.names.lookup y.1 == some .local || fd.scope.names.lookup y.1 == some .cell) = true)
    (hcells : (fd.scope.names.all fun y => y.2 != .cell || fd.scope.names.lookup y.1 == some .cell) = true)
    (h : ∀ s₁, St s s.heap (callEnvC fd s.heap.objs.size a) (callEnvC fd s.heap.objs.size a).cells (mOf binds fun _ => none) [] s₁ →
      wpAny (model prog w) (A.deeper (callEnvC fd s.heap.objs.size a)) (execs body (callEnvC fd s.heap.objs.size a)) (fun f s' => R' (.ok (.ret (match f with | .ret v => v | _ => .none))) s') (fun _ _ => False) s₁)
    (hco : fd.scope.isCoroutine = false) (hgen : fd.scope.isGenerator = false) (hk : fd.scope.kind = .function) :
    codeAny (model prog w) A (.call (.ref a) ⟨vals, []⟩) R' s := by
  refine codeAny_call_cells R.room (B.K _ _ ho) hdata B.lim (codeRec_of B.K hcd) hbody hbind hclo ?_ (fun s₁ x => ?_) hco hgen hk
  · exact kindsX hkinds _
  · have hkc : ∀ n c, (callEnvC fd s.heap.objs.size a).cells.lookup n = some c → (callEnvC fd s.heap.objs.size a).kindOf n = some .cell := by
      intro n c e
      rcases mem_cellsFrom _ _ _ _ (lookup_mem' e) with q | q
      · cases q
      · have := List.all_eq_true.mp hcells _ q
        show fd.scope.names.lookup n = some .cell
        simpa using this
    refine wpAny_mono (h s₁ ?_) (fun _ _ q => q) (fun _ _ q => q.elim)
    have hL : ∀ b o, s.heap.get? b = some o → b ≠ s.heap.objs.size := fun b o e => Nat.ne_of_lt (Heap.lt_size e)
    have none_ge : ∀ a', s.heap.objs.size ≤ a' → s.heap.get? a' = none := fun a' ha => by
      cases e : s.heap.get? a' with
      | none => rfl
      | some o' => exact absurd (Heap.lt_size e) (Nat.not_lt.mpr ha)
    exact {
      same := x.toInCall.same
      keep := x.toInCall.keep
      ns := ⟨_, x.toInCall.ns, fun n hn => bindL_mOf _ _ _ _ (fun _ _ => rfl) n hn⟩
      cell := fun n c e => by
        have := x.cell n c e
        rwa [bindC_mOf _ _ _ _ (fun _ _ => rfl) n (by rw [hkc n c e]; decide)] at this
      mine := fun p hp => by cases hp
      gL := none_ge _ x.toInCall.fresh
      gC := fun n c e => by
        have := x.above n c (lookup_mem' e)
        exact ⟨none_ge _ (Nat.le_of_lt (Nat.lt_of_le_of_lt x.toInCall.fresh this)), Nat.ne_of_gt this⟩
      aC := fun n c n' c' e e' q => by
        subst q
        exact name_of_addr x.apart (lookup_mem' e) (lookup_mem' e')
      gO := fun p hp => by cases hp
      aO := List.Pairwise.nil }
end
end Mine

/-! part F3 -/
open PySem PySem.W PySem.Calls PyProof.Rows
set_option Elab.async false
namespace Mine
section
variable {prog : Program} {w : World} {A : Around} {E : Value → Shared → Prop} {s₀ s : Shared} {g : Heap} {env : Env} {oc : List (Str × Addr)} {m : Str → Option Value} {own fr : Own} {x : Str} {px pos : Pos} {body : List Stmt}

/-- storing a local or a cell of one's own -/
theorem assign_st {v : Value} {Q : Unit → Shared → Prop} (X : St s₀ g env oc m own s) (hk : env.scope.kind = .function)
    (hx : (env.kindOf x = some .local ∧ ∀ c, oc.lookup x ≠ some c) ∨ (env.kindOf x = some .cell ∧ ∃ c, oc.lookup x = some c ∧ env.cells.lookup x = some c))
    (h : ∀ s', St s₀ g env oc (upd m x v) own s' → Q () s') : wpAny (model prog w) A (assign (.Name x px) env v) Q E s := by
  refine wpAny_assign_Name ?_
  rcases hx with ⟨hl, hn⟩ | ⟨hl, c, hc, he⟩
  · exact store_l X h hl hk hn
  · exact store_c X h hl hc he hk

theorem forLoop_st {R : Result → Shared → Prop} {I : Addr} {PI : Obj → Prop} {fp : List Addr} {n : Nat} {P : Nat → Value → Prop} {S : Nat → Heap → Prop}
    (W : Walks prog w A I fp [I] n P S) (hlive : ∀ i h, S i h → ∃ o, h.get? I = some o) (J : Nat → Heap → (Str → Option Value) → Own → Prop)
    (X : St s₀ g env oc m (own ++ (I, PI) :: fr) s) (hS : S 0 s.heap) (hfp : ∀ b ∈ fp, b ≠ I → ∃ o, g.get? b = some o) (hJ : J 0 g m own)
    (hk : env.scope.kind = .function)
    (hx : (env.kindOf x = some .local ∧ ∀ c, oc.lookup x ≠ some c) ∨ (env.kindOf x = some .cell ∧ ∃ c, oc.lookup x = some c ∧ env.cells.lookup x = some c))
    (turn : ∀ i g' m' own' v oI s', i < n → Ext g g' → J i g' m' own' → P i v → St s₀ g' env oc (upd m' x v) (own' ++ (I, (· = oI)) :: fr) s' →
      wpAny (model prog w) A (execs body env) (fun f s'' => match f with
        | .next | .cont => ∃ g'' m'' own'', Ext g' g'' ∧ J (i + 1) g'' m'' own'' ∧ St s₀ g'' env oc m'' (own'' ++ (I, (· = oI)) :: fr) s''
        | .brk => R (.ok .next) s''
        | .ret r => R (.ok (.ret r)) s'') (notedBy (model prog w) A env fun e s' => R (.error e) s') s')
    (done : ∀ g' m' own' s', Ext g g' → J n g' m' own' → St s₀ g' env oc m' (own' ++ fr) s' → R (.ok .next) s') :
    codeAny (model prog w) A (.forLoop (.Name x px) (.ref I) body [] env) R s := by
  refine codeAny_forLoop_any (fun k s' => ∃ i g' m' own' PI', k = n + 1 - i ∧ i ≤ n ∧ Ext g g' ∧ J i g' m' own' ∧ S i s'.heap ∧ St s₀ g' env oc m' (own' ++ (I, PI') :: fr) s') ?_ (n + 1)
    ⟨0, g, m, own, PI, rfl, Nat.zero_le _, Ext.refl _, hJ, hS, X⟩
  rintro k s' ⟨i, g', m', own', PI', rfl, hi, hg, hJ', hS', X'⟩
  have hm : ((I, PI') : Addr × (Obj → Prop)) ∈ own' ++ (I, PI') :: fr := List.mem_append_right _ (.head _)
  have X0 : St s₀ g' env oc m' (own' ++ fr) s' := X'.drop_own ((List.Sublist.refl _).append (List.sublist_cons_self _ _))
  have hIo : ∀ p ∈ own' ++ fr, p.1 ≠ I := by
    have hap := List.pairwise_append.mp X'.aO
    intro p hp
    rcases List.mem_append.mp hp with q | q
    · exact hap.2.2 p q (I, PI') (.head _)
    · exact ((List.pairwise_cons.mp hap.2.1).1 p q).symm
  have stepI : ∀ (h' : Heap) (tk : Nat), (∀ b o, b ∉ [I] → s'.heap.get? b = some o → h'.get? b = some o) → St s₀ g' env oc m' (own' ++ fr) { s' with heap := h', toks := tk } := by
    intro h' tk hk'
    refine X0.step h' tk [I] hk' ?_ ?_ ?_ ?_
    · intro b hb; rw [List.mem_singleton.mp hb]; exact (X'.gO _ hm).1
    · intro hb; exact (X'.gO _ hm).2.1 (List.mem_singleton.mp hb).symm
    · intro y c e hb; exact (X'.gO _ hm).2.2 y c e (List.mem_singleton.mp hb).symm
    · intro p hp hb; exact hIo p hp (List.mem_singleton.mp hb)
  by_cases hlt : i < n
  · refine W.item i s' _ _ hlt hS' fun v h' tk hP hS'' hk' => ?_
    dsimp only
    refine wpAny_pure ?_
    obtain ⟨oI, hoI⟩ := hlive (i + 1) h' hS''
    have Y : St s₀ g' env oc m' ((I, (· = oI)) :: (own' ++ fr)) { s' with heap := h', toks := tk } :=
      (stepI h' tk hk').add_own (P := (· = oI)) hoI rfl (X'.gO _ hm).1 (X'.gO _ hm).2.1 (X'.gO _ hm).2.2 hIo
    refine assign_st Y hk hx fun s₁ Z => ?_
    have up : ∀ {gg : Heap} {mm : Str → Option Value} {oo : Own} {t : Shared}, Ext g' gg → St s₀ gg env oc mm oo t → (I, (· = oI)) ∈ oo → S (i + 1) t.heap := fun {gg mm oo t} hgg T hin =>
      W.frame _ _ _ hS'' fun b hb o e => by
        by_cases hbI : b = I
        · subst hbI
          obtain ⟨o', e', q⟩ := T.mine _ hin
          rw [hoI] at e; cases e
          exact e'.trans (congrArg some q)
        · obtain ⟨o', e'⟩ := hfp b hb hbI
          have e1 := hk' b o' (fun q => hbI (List.mem_singleton.mp q)) (X'.keep b o' (hg b o' e'))
          rw [e1] at e; cases e
          exact T.keep b o (hgg b o (hg b o e'))
    refine wpAny_mono (turn i g' m' own' v oI s₁ hlt hg hJ' hP (Z.perm_own List.perm_middle)) (fun f s₂ q => ?_) fun _ _ e => e
    cases f with
    | next => obtain ⟨g2, m2, own2, a, b, c⟩ := q; exact ⟨n + 1 - (i + 1), by omega, i + 1, g2, m2, own2, _, rfl, hlt, hg.trans a, b, up a c (List.mem_append_right _ (.head _)), c⟩
    | cont => obtain ⟨g2, m2, own2, a, b, c⟩ := q; exact ⟨n + 1 - (i + 1), by omega, i + 1, g2, m2, own2, _, rfl, hlt, hg.trans a, b, up a c (List.mem_append_right _ (.head _)), c⟩
    | brk => exact q
    | ret r => exact q
  · obtain rfl : i = n := by omega
    refine W.done s' _ _ hS' fun h' tk hk' => ?_
    refine wpAny_execs_nil ?_
    exact done g' m' own' _ hg hJ' (stepI h' tk hk')

/-- the frame of a comprehension: its dict, its cells -/
theorem newCompEnv {scope : Scope} {cl : List (Str × Addr)} {Q : Env → Shared → Prop} (hk : scope.kind = .function)
    (hQ : ∀ h', (∀ b o, s.heap.get? b = some o → h'.get? b = some o) → h'.Ns s.heap.objs.size (fun _ => none) →
      (∀ n c, (cellsFrom (s.heap.objs.size + 1) scope.names []).lookup n = some c → h'.IsCell c none ∧ s.heap.objs.size < c) →
      (cellsFrom (s.heap.objs.size + 1) scope.names []).Pairwise (fun x y => x.2 ≠ y.2) →
      Q { scope := scope, locals := s.heap.objs.size, globals := env.globals, cells := cellsFrom (s.heap.objs.size + 1) scope.names cl, qual := env.qual, func := none, code := env.code, frame := env.frame, builtins := env.builtins } { s with heap := h' }) :
    wpAny (model prog w) A (newFunctionEnv scope env.globals cl [] env.qual none .none (some env)) Q E s := by
  simp only [newFunctionEnv, Option.isSome_some, if_true]
  refine wpAny_bind (wpAny_alloc ?_)
  refine wpAny_bind (wpAny_layCells _ (fun name kind cells => by cases hkc : kind == NameKind.cell <;> simp [hkc]) _ _ _ _ ?_)
  have ok := cellsFrom_ok scope.names (s.heap.push { cls := .type "dict", data := .dict #[] }) (s.heap.objs.size + 1) [] ⟨fun _ _ hm => (nomatch hm), List.Pairwise.nil⟩ (by rw [Heap.size_push]; exact Nat.le_refl _)
  rw [Heap.size_push] at ok
  rw [show ({ s with heap := s.heap.push { cls := .type "dict", data := .dict #[] } } : Shared).heap.objs.size = s.heap.objs.size + 1 from Heap.size_push ..]
  rw [List.forIn_nil]
  refine wpAny_bind (wpAny_pure (wpAny_pure (hQ _ (fun b o e => pushCells_keeps _ _ b o (Heap.get?_push_of_some _ e)) ((Heap.Ns.new s.heap (.type "dict")).keeps (pushCells_keeps _ _)) (fun n c e => ?_) ok.apart)))
  have := ok.empty n c (mem_of_lookup e)
  exact ⟨this.1, this.2⟩
end

theorem cellsFrom_append : ∀ (names : List (Str × NameKind)) (n : Nat) (acc : List (Str × Addr)), cellsFrom n names acc = cellsFrom n names [] ++ acc
  | [], _, _ => rfl
  | (y, k) :: r, n, acc => by
    unfold cellsFrom
    split
    · rw [cellsFrom_append r (n + 1) ((y, n) :: acc), cellsFrom_append r (n + 1) [(y, n)]]; simp
    · exact cellsFrom_append r n acc
end Mine

/-! part F4 -/
open PySem PySem.W PySem.Calls PyProof.Rows
set_option Elab.async false
set_option linter.unusedVariables false
namespace Mine

/-- a view without a frame -/
structure Ow (s₀ : Shared) (g : Heap) (own : Own) (s : Shared) : Prop where
  same : ∃ h tk, s = { s₀ with heap := h, toks := tk }
  keep : Ext g s.heap
  mine : ∀ p ∈ own, ∃ o, s.heap.get? p.1 = some o ∧ p.2 o
  gO : ∀ p ∈ own, g.get? p.1 = none
  aO : own.Pairwise fun x y => x.1 ≠ y.1

theorem Ow.start (s : Shared) : Ow s s.heap [] s := ⟨⟨_, _, rfl⟩, Ext.refl _, (fun _ h => nomatch h), (fun _ h => nomatch h), List.Pairwise.nil⟩
theorem Ow.step {s₀ s : Shared} {g : Heap} {own : Own} (x : Ow s₀ g own s) (h' : Heap) (tk : Nat) (wr : List Addr)
    (hk : ∀ b o, b ∉ wr → s.heap.get? b = some o → h'.get? b = some o) (hg : ∀ b ∈ wr, g.get? b = none) (hO : ∀ p ∈ own, p.1 ∉ wr) : Ow s₀ g own { s with heap := h', toks := tk } where
  same := by obtain ⟨h, t, rfl⟩ := x.same; exact ⟨h', tk, rfl⟩
  keep := fun b o e => hk b o (fun hb => by rw [hg b hb] at e; cases e) (x.keep b o e)
  mine := fun p hp => by obtain ⟨o, a, b⟩ := x.mine p hp; exact ⟨o, hk _ o (hO p hp) a, b⟩
  gO := x.gO
  aO := x.aO
theorem Ow.keeps {s₀ s s' : Shared} {g : Heap} {own : Own} (x : Ow s₀ g own s) (k : Keeps s s') : Ow s₀ g own s' := by
  obtain ⟨h', tk, rfl, hk⟩ := k
  exact x.step h' tk [] (fun b o _ e => hk b o e) (fun _ h => nomatch h) (fun _ _ h => nomatch h)
theorem Ow.apart {s₀ s : Shared} {g : Heap} {own : Own} (x : Ow s₀ g own s) {a : Addr} (ha : s.heap.get? a = none) : g.get? a = none ∧ ∀ p ∈ own, p.1 ≠ a := by
  refine ⟨?_, ?_⟩
  · cases e : g.get? a with
    | none => rfl
    | some o => rw [x.keep a o e] at ha; cases ha
  · rintro p hp rfl; obtain ⟨o, e, _⟩ := x.mine p hp; rw [e] at ha; cases ha
theorem Ow.push_own {s₀ s s' : Shared} {g : Heap} {own : Own} (x : Ow s₀ g own s) {a : Addr} {P : Obj → Prop} (hn : s.heap.get? a = none) (k : Keeps s s') {o : Obj} (ho : s'.heap.get? a = some o) (hp : P o) :
    Ow s₀ g ((a, P) :: own) s' := by
  have y := x.keeps k
  obtain ⟨h1, h4⟩ := x.apart hn
  exact { y with
    mine := fun p hp' => by
      rcases List.mem_cons.mp hp' with rfl | hp'
      · exact ⟨o, ho, hp⟩
      · exact y.mine p hp'
    gO := fun p hp' => by
      rcases List.mem_cons.mp hp' with rfl | hp'
      · exact h1
      · exact y.gO p hp'
    aO := List.pairwise_cons.mpr ⟨fun p hp' q => h4 p hp' q.symm, y.aO⟩ }
theorem St.toOw {s₀ s : Shared} {g : Heap} {env : Env} {oc : List (Str × Addr)} {m : Str → Option Value} {own : Own} (x : St s₀ g env oc m own s) : Ow s₀ g own s :=
  ⟨x.same, x.keep, x.mine, fun p hp => (x.gO p hp).1, x.aO⟩

def listO (ys : List Value) : Obj → Prop := fun o => ∃ n, o = { cls := .type "list", data := .seq ys.toArray n }
theorem plain_of {h : Heap} {a : Addr} {o : Obj} {ys : List Value} (e : h.get? a = some o) (p : listO ys o) : h.PlainList a ys.toArray := by obtain ⟨n, rfl⟩ := p; exact ⟨n, e⟩

/-- the frame of a comprehension -/
def cEnv (scope : Scope) (cl : List (Str × Addr)) (C : Addr) (env : Env) : Env :=
  { scope := relabel scope env, locals := C, globals := env.globals, cells := cellsFrom (C + 1) scope.names cl, qual := env.qual, func := none, code := env.code, frame := env.frame, builtins := env.builtins }
def cOc (scope : Scope) (C : Addr) : List (Str × Addr) := cellsFrom (C + 1) scope.names []

theorem lookup_append_some {α : Type} {l l' : List (Str × α)} {n : Str} {c : α} (h : l.lookup n = some c) : (l ++ l').lookup n = some c := by
  induction l with
  | nil => cases h
  | cons p r ih =>
    obtain ⟨y, d⟩ := p
    rw [List.cons_append, List.lookup_cons]
    rw [List.lookup_cons] at h
    cases hb : n == y with
    | true => rw [hb] at h; exact h
    | false => rw [hb] at h; exact ih h

theorem relabel_kind {env : Env} {x : Str} {k : NameKind} (hk : k = .local ∨ k = .cell) : ∀ {names : List (Str × NameKind)}, names.lookup x = some k →
    (names.map fun (n, k) => if (k == NameKind.free && env.scope.kind == .function && env.kindOf n == some .cell) then (n, NameKind.cell) else (n, k)).lookup x = some k
  | [], h => by simp at h
  | (n, k') :: r, h => by
    have ih := @relabel_kind env x k hk r
    show List.lookup x ((if (k' == NameKind.free && env.scope.kind == .function && env.kindOf n == some .cell) = true then (n, NameKind.cell) else (n, k')) :: _) = _
    cases hx : x == n with
    | true =>
      simp only [List.lookup_cons, hx] at h
      cases h
      rcases hk with rfl | rfl <;> simp [List.lookup_cons, hx]
    | false =>
      simp only [List.lookup_cons, hx] at h
      by_cases hc : (k' == NameKind.free && env.scope.kind == .function && env.kindOf n == some .cell) = true
      · rw [if_pos hc]; simp only [List.lookup_cons, hx]; exact ih h
      · rw [if_neg hc]; simp only [List.lookup_cons, hx]; exact ih h

section
variable {prog : Program} {w : World} {A : Around} {E : Value → Shared → Prop} {s₀ s : Shared} {g : Heap} {env : Env} {oc : List (Str × Addr)} {m : Str → Option Value} {own fr : Own} {x : Str} {px pos : Pos}

abbrev tests (prog : Program) (w : World) (ifs : List Expr) (env : Env) : Sem Bool :=
  forIn ifs true fun c r => if r = true then do let ok ← isTrue c env (eval c env); pure (ForInStep.yield ok) else pure (ForInStep.yield r)

theorem compLoop_st {elt iter : Expr} {ifs : List Expr} {scope : Scope} {R : Result → Shared → Prop} {I D : Addr} {PI : Obj → Prop} {fp : List Addr} {n : Nat} {P : Nat → Value → Prop} {S : Nat → Heap → Prop}
    (W : Walks prog w A I fp [I] n P S) (hlive : ∀ i h, S i h → ∃ o, h.get? I = some o) (hn : n ≤ sizeLine) (J : Nat → List Value → Heap → Own → Prop)
    (X : St s₀ g env oc m (own ++ [(D, listO []), (I, PI)]) s) (hS : S 0 s.heap) (hfp : ∀ b ∈ fp, b ≠ I → ∃ o, g.get? b = some o) (hJ : J 0 [] g own)
    (hk : env.scope.kind = .function)
    (hx : (env.kindOf x = some .local ∧ ∀ c, oc.lookup x ≠ some c) ∨ (env.kindOf x = some .cell ∧ ∃ c, oc.lookup x = some c ∧ env.cells.lookup x = some c))
    (turn : ∀ i g' m' own' ys v oI s' E', i < n → Ext g g' → J i ys g' own' → P i v → St s₀ g' env oc (upd m' x v) (own' ++ [(D, listO ys), (I, (· = oI))]) s' →
      wpAny (model prog w) A (tests prog w ifs env) (fun ok s₃ => if ok = true then wpAny (model prog w) A (eval elt env) (fun y s₄ => ∃ g'' m'' own'', Ext g' g'' ∧ J (i + 1) (ys ++ [y]) g'' own'' ∧ St s₀ g'' env oc m'' (own'' ++ [(D, listO ys), (I, (· = oI))]) s₄) E' s₃
        else ∃ g'' m'' own'', Ext g' g'' ∧ J (i + 1) ys g'' own'' ∧ St s₀ g'' env oc m'' (own'' ++ [(D, listO ys), (I, (· = oI))]) s₃) E' s')
    (done : ∀ g' m' own' ys s', Ext g g' → J n ys g' own' → St s₀ g' env oc m' (own' ++ [(D, listO ys)]) s' → R (.ok .next) s') :
    codeAny (model prog w) A (.compLoop (.ListComp elt [⟨.Name x px, iter, ifs, 0⟩] scope pos) 0 (.ref I) (.ref D) env) R s := by
  refine codeAny_compLoop_tests (fun k s' => ∃ i g' m' own' ys PI', k = n + 1 - i ∧ i ≤ n ∧ ys.length ≤ i ∧ Ext g g' ∧ J i ys g' own' ∧ S i s'.heap ∧ St s₀ g' env oc m' (own' ++ [(D, listO ys), (I, PI')]) s') ?_ (n + 1)
    ⟨0, g, m, own, [], PI, rfl, Nat.zero_le _, Nat.le_refl _, Ext.refl _, hJ, hS, X⟩
  rintro k s' ⟨i, g', m', own', ys, PI', rfl, hi, hys, hg, hJ', hS', X'⟩
  have hm : ((I, PI') : Addr × (Obj → Prop)) ∈ own' ++ [(D, listO ys), (I, PI')] := List.mem_append_right _ (.tail _ (.head _))
  have X0 : St s₀ g' env oc m' (own' ++ [(D, listO ys)]) s' := X'.drop_own ((List.Sublist.refl _).append (List.Sublist.cons_cons _ (List.sublist_cons_self _ _)))
  have hIo : ∀ p ∈ own' ++ [(D, listO ys)], p.1 ≠ I := by
    have hap := List.pairwise_append.mp X'.aO
    intro p hp
    rcases List.mem_append.mp hp with q | q
    · exact hap.2.2 p q (I, PI') (.tail _ (.head _))
    · rw [List.mem_singleton.mp q]; exact (List.pairwise_cons.mp hap.2.1).1 (I, PI') (.head _)
  have stepI : ∀ (h' : Heap) (tk : Nat), (∀ b o, b ∉ [I] → s'.heap.get? b = some o → h'.get? b = some o) → St s₀ g' env oc m' (own' ++ [(D, listO ys)]) { s' with heap := h', toks := tk } := by
    intro h' tk hk'
    refine X0.step h' tk [I] hk' ?_ ?_ ?_ ?_
    · intro b hb; rw [List.mem_singleton.mp hb]; exact (X'.gO _ hm).1
    · intro hb; exact (X'.gO _ hm).2.1 (List.mem_singleton.mp hb).symm
    · intro y c e hb; exact (X'.gO _ hm).2.2 y c e (List.mem_singleton.mp hb).symm
    · intro p hp hb; exact hIo p hp (List.mem_singleton.mp hb)
  by_cases hlt : i < n
  · refine W.item i s' _ _ hlt hS' fun v h' tk hP hS'' hk' => ?_
    dsimp only
    obtain ⟨oI, hoI⟩ := hlive (i + 1) h' hS''
    have Y : St s₀ g' env oc m' ((I, (· = oI)) :: (own' ++ [(D, listO ys)])) { s' with heap := h', toks := tk } :=
      (stepI h' tk hk').add_own (P := (· = oI)) hoI rfl (X'.gO _ hm).1 (X'.gO _ hm).2.1 (X'.gO _ hm).2.2 hIo
    refine assign_st Y hk hx fun s₁ Z => ?_
    have up : ∀ {gg : Heap} {mm : Str → Option Value} {oo : Own} {t : Shared}, Ext g' gg → St s₀ gg env oc mm oo t → (I, (· = oI)) ∈ oo → S (i + 1) t.heap := fun {gg mm oo t} hgg T hin =>
      W.frame _ _ _ hS'' fun b hb o e => by
        by_cases hbI : b = I
        · subst hbI
          obtain ⟨o', e', q⟩ := T.mine _ hin
          rw [hoI] at e; cases e
          exact e'.trans (congrArg some q)
        · obtain ⟨o', e'⟩ := hfp b hb hbI
          have e1 := hk' b o' (fun q => hbI (List.mem_singleton.mp q)) (X'.keep b o' (hg b o' e'))
          rw [e1] at e; cases e
          exact T.keep b o (hgg b o (hg b o e'))
    have Z' : St s₀ g' env oc (upd m' x v) (own' ++ [(D, listO ys), (I, (· = oI))]) s₁ := Z.perm_own (by
      have : own' ++ [(D, listO ys), (I, (· = oI))] = (own' ++ [(D, listO ys)]) ++ [(I, (· = oI))] := by simp
      rw [this]
      exact List.perm_append_comm)
    refine wpAny_mono (turn i g' m' own' ys v oI s₁ _ hlt hg hJ' hP Z') (fun ok s₂ q => ?_) fun _ _ e => e
    cases ok with
    | false =>
      obtain ⟨g2, m2, own2, a, b, c⟩ := q
      exact ⟨n + 1 - (i + 1), by omega, i + 1, g2, m2, own2, ys, _, rfl, hlt, by omega, hg.trans a, b, up a c (List.mem_append_right _ (.tail _ (.head _))), c⟩
    | true =>
      rw [if_pos rfl] at q ⊢
      refine wpAny_mono q (fun y s₄ q' => ?_) fun _ _ e => e
      obtain ⟨g2, m2, own2, a, b, c⟩ := q'
      obtain ⟨oD, hoD, hpD⟩ := c.mine (D, listO ys) (List.mem_append_right _ (.head _))
      refine wpAny_list_append_plain (plain_of hoD hpD) (fun h5 hl5 hs5 => ?_) (by rw [List.size_toArray]; omega)
      obtain ⟨n5, ho5⟩ := hl5
      have c' : St s₀ g2 env oc m2 (own2 ++ (D, listO (ys ++ [y])) :: [(I, (· = oI))]) { s₄ with heap := h5, toks := s₄.toks } :=
        St.set_own (pre := own2) (P := listO ys) (post := [(I, (· = oI))]) c (P' := listO (ys ++ [y])) (fun b o hb e => hs5.extBut b o hb e) ho5 ⟨n5, by simp⟩
      exact ⟨n + 1 - (i + 1), by omega, i + 1, g2, m2, own2, ys ++ [y], _, rfl, hlt, by simp; omega, hg.trans a, b, up a c' (List.mem_append_right _ (.tail _ (.head _))), c'⟩
  · obtain rfl : i = n := by omega
    refine W.done s' _ _ hS' fun h' tk hk' => ?_
    exact done g' m' own' ys _ hg hJ' (stepI h' tk hk')
end
end Mine

/-! part F5 -/
open PySem PySem.W PySem.Calls PyProof.Rows
set_option Elab.async false
set_option linter.unusedVariables false
namespace Mine
theorem fresh_ge {h : Heap} {a : Addr} (ha : h.objs.size ≤ a) : h.get? a = none := by
  cases e : h.get? a with
  | none => rfl
  | some o' => exact absurd (Heap.lt_size e) (Nat.not_lt.mpr ha)

section
variable {prog : Program} {w : World} {A : Around} {E : Value → Shared → Prop} {s₀ s : Shared} {g : Heap} {env : Env} {own : Own} {x : Str} {px pos : Pos}

theorem comp_block {elt iter : Expr} {ifs : List Expr} {scope : Scope} {cl : List (Str × Addr)} {RR : Value → Addr → Result → Shared → Prop} {I : Addr} {PI : Obj → Prop} {fp : List Addr} {n : Nat} {P : Nat → Value → Prop} {S : Nat → Heap → Prop}
    (W : Walks prog w A I fp [I] n P S) (hlive : ∀ i h, S i h → ∃ o, h.get? I = some o) (hn : n ≤ sizeLine) (J : Nat → List Value → Heap → Own → Prop)
    (X : Ow s₀ g (own ++ [(I, PI)]) s) (hS : S 0 s.heap) (hfp : ∀ b ∈ fp, b ≠ I → ∃ o, g.get? b = some o) (hJ : J 0 [] g own)
    (hkind : scope.kind = .function)
    (hcells : (scope.names.all fun y => y.2 != .cell || scope.names.lookup y.1 == some .cell) = true)
    (hx : scope.names.lookup x = some .local ∨ (scope.names.lookup x = some .cell ∧ ∀ C, ∃ c, (cOc scope C).lookup x = some c))
    (turn : ∀ C i g' m' own' ys v D oI s' E', s.heap.get? C = none → s.heap.get? D = none → i < n → Ext g g' → J i ys g' own' → P i v → St s₀ g' (cEnv scope cl C env) (cOc scope C) (upd m' x v) (own' ++ [(D, listO ys), (I, (· = oI))]) s' →
      wpAny (model prog w) A (tests prog w ifs (cEnv scope cl C env)) (fun ok s₃ => if ok = true then wpAny (model prog w) A (eval elt (cEnv scope cl C env)) (fun y s₄ => ∃ g'' m'' own'', Ext g' g'' ∧ J (i + 1) (ys ++ [y]) g'' own'' ∧ St s₀ g'' (cEnv scope cl C env) (cOc scope C) m'' (own'' ++ [(D, listO ys), (I, (· = oI))]) s₄) E' s₃
        else ∃ g'' m'' own'', Ext g' g'' ∧ J (i + 1) ys g'' own'' ∧ St s₀ g'' (cEnv scope cl C env) (cOc scope C) m'' (own'' ++ [(D, listO ys), (I, (· = oI))]) s₃) E' s')
    (done : ∀ D C ys g' own' s' mC, s.heap.get? D = none → s.heap.get? C = none → s'.heap.Ns C mC → Ext g g' → J n ys g' own' → Ow s₀ g' (own' ++ [(D, listO ys)]) s' →
      g'.get? C = none → (∀ p ∈ own' ++ [(D, listO ys)], p.1 ≠ C) → RR (.ref D) C (.ok .next) s') :
    wpAny (model prog w) A (newList []) (fun acc s₃ => wpAny (model prog w) A (newFunctionEnv scope env.globals cl [] env.qual none .none (some env)) (fun cenv s₄ =>
      codeAny (model prog w) A (.compStart (.ListComp elt [⟨.Name x px, iter, ifs, 0⟩] scope pos) 0 (.ref I) acc { cenv with scope := relabel scope env }) (RR acc cenv.locals) s₄) E s₃) E s := by
  refine wpAny_newObj_type ?_
  generalize hH2 : s.heap.push { cls := .type "list", dict := none, data := .seq ([] : List Value).toArray } = H2
  have hsz : H2.objs.size = s.heap.objs.size + 1 := by rw [← hH2, Heap.size_push]
  have k2 : Ext s.heap H2 := fun b o e => hH2 ▸ Heap.get?_push_of_some _ e
  have hD2 : H2.get? s.heap.objs.size = some { cls := .type "list", dict := none, data := .seq ([] : List Value).toArray } := hH2 ▸ Heap.get?_push_size _ rfl
  refine newCompEnv hkind fun h' hk' hns hcs hap => ?_
  rw [show ({ s with heap := H2 } : Shared).heap.objs.size = H2.objs.size from rfl] at hns hcs hap ⊢
  dsimp only at hk' ⊢
  -- the state at the loop's start
  have hI : ((I, PI) : Addr × (Obj → Prop)) ∈ own ++ [(I, PI)] := List.mem_append_right _ (.head _)
  obtain ⟨oI0, hoI0, hPI0⟩ := X.mine _ hI
  have hCnone : s.heap.get? H2.objs.size = none := fresh_ge (by rw [hsz]; exact Nat.le_succ _)
  have hCel : ∀ y c, (cOc scope H2.objs.size).lookup y = some c → h'.IsCell c none ∧ H2.objs.size < c := hcs
  have hge : ∀ b o, s.heap.get? b = some o → b < s.heap.objs.size := fun b o e => Heap.lt_size e
  have Xo : Ow s₀ g ((s.heap.objs.size, listO []) :: (own ++ [(I, PI)])) { s with heap := h' } :=
    X.push_own (fresh_ge (Nat.le_refl _)) ⟨h', s.toks, rfl, k2.trans hk'⟩ (hk' _ _ hD2) ⟨0, rfl⟩
  have Xs : St s₀ g (cEnv scope cl H2.objs.size env) (cOc scope H2.objs.size) (fun _ => none) (own ++ [(s.heap.objs.size, listO []), (I, PI)]) { s with heap := h' } := by
    have base : St s₀ g (cEnv scope cl H2.objs.size env) (cOc scope H2.objs.size) (fun _ => none) ((s.heap.objs.size, listO []) :: (own ++ [(I, PI)])) { s with heap := h' } := {
      same := Xo.same
      keep := Xo.keep
      ns := ⟨_, hns, fun _ _ => rfl⟩
      cell := fun y c e => (hCel y c e).1
      mine := Xo.mine
      gL := (X.apart hCnone).1
      gC := fun y c e => ⟨(X.apart (fresh_ge (Nat.le_of_lt (Nat.lt_of_succ_lt (Nat.lt_of_le_of_lt (Nat.le_of_eq hsz.symm) (hCel y c e).2))))).1, Nat.ne_of_gt (hCel y c e).2⟩
      aC := fun y c y' c' e e' q => by subst q; exact name_of_addr hap (mem_of_lookup e) (mem_of_lookup e')
      gO := fun p hp => by
        refine ⟨Xo.gO p hp, ?_, ?_⟩
        · rcases List.mem_cons.mp hp with rfl | hp
          · show s.heap.objs.size ≠ H2.objs.size; rw [hsz]; exact Nat.ne_of_lt (Nat.lt_succ_self _)
          · obtain ⟨o, e, _⟩ := X.mine p hp; exact Nat.ne_of_lt (Nat.lt_trans (hge _ _ e) (by rw [hsz]; exact Nat.lt_succ_self _))
        · intro y c e
          have hc := (hCel y c e).2
          rcases List.mem_cons.mp hp with rfl | hp
          · exact Nat.ne_of_lt (Nat.lt_of_succ_lt (Nat.lt_of_le_of_lt (Nat.le_of_eq hsz.symm) hc))
          · obtain ⟨o, e, _⟩ := X.mine p hp; exact Nat.ne_of_lt (Nat.lt_trans (hge _ _ e) (Nat.lt_of_succ_lt (Nat.lt_of_le_of_lt (Nat.le_of_eq hsz.symm) hc)))
      aO := Xo.aO }
    refine base.perm_own ?_
    have e1 : own ++ [(s.heap.objs.size, listO []), (I, PI)] = own ++ (s.heap.objs.size, listO []) :: [(I, PI)] := rfl
    rw [e1]
    exact List.perm_middle
  have hkc : (cEnv scope cl H2.objs.size env).scope.kind = .function := hkind
  have hx' : ((cEnv scope cl H2.objs.size env).kindOf x = some .local ∧ ∀ c, (cOc scope H2.objs.size).lookup x ≠ some c) ∨
      ((cEnv scope cl H2.objs.size env).kindOf x = some .cell ∧ ∃ c, (cOc scope H2.objs.size).lookup x = some c ∧ (cEnv scope cl H2.objs.size env).cells.lookup x = some c) := by
    rcases hx with hx | ⟨hx, hc⟩
    · refine .inl ⟨relabel_kind (.inl rfl) hx, fun c e => ?_⟩
      rcases mem_cellsFrom _ _ _ _ (mem_of_lookup e) with q | q
      · cases q
      · have := List.all_eq_true.mp hcells _ q
        simp [hx] at this
    · obtain ⟨c, hc⟩ := hc H2.objs.size
      refine .inr ⟨relabel_kind (.inr rfl) hx, c, hc, ?_⟩
      show (cellsFrom (H2.objs.size + 1) scope.names cl).lookup x = some c
      rw [cellsFrom_append]
      exact lookup_append_some hc
  have loop : codeAny (model prog w) A (.compLoop (.ListComp elt [⟨.Name x px, iter, ifs, 0⟩] scope pos) 0 (.ref I) (.ref s.heap.objs.size) (cEnv scope cl H2.objs.size env)) (RR (.ref s.heap.objs.size) H2.objs.size) { s with heap := h' } := by
    have hS' : S 0 h' := W.frame _ _ _ hS fun b _ o e => hk' b o (k2 b o e)
    refine compLoop_st W hlive hn J Xs hS' hfp hJ hkc hx' (fun i g' m' own' ys v oI s' E' hi hg hJ' hP Y => turn _ i g' m' own' ys v _ oI s' E' hCnone (fresh_ge (Nat.le_refl _)) hi hg hJ' hP Y) ?_
    intro g' m' own' ys s' hg hJ' Y
    obtain ⟨ml, hml, _⟩ := Y.ns
    exact done _ _ ys g' own' s' ml (fresh_ge (Nat.le_refl _)) hCnone hml hg hJ' Y.toOw Y.gL fun p hp => (Y.gO p hp).2.1
  exact codeAny_compStart_list loop (W.self 0 _ _ _ (W.frame _ _ _ hS fun b _ o e => hk' b o (k2 b o e)) loop)

/-- what a comprehension asks of the walker -/
inductive CompGo (prog : Program) (w : World) (A : Around) (env : Env) (x : Str) (ifs : List Expr) (elt : Expr) (scope : Scope) (cl : List (Str × Addr)) (it : Value) (s₂ : Shared)
    (K : Shared → Heap → Nat → (Nat → List Value → Heap → Own → Prop) → Prop) : Prop
  | mk (s₀ : Shared) (g : Heap) (own : Own) (I : Addr) (PI : Obj → Prop) (fp : List Addr) (n : Nat) (P : Nat → Value → Prop) (S : Nat → Heap → Prop) (J : Nat → List Value → Heap → Own → Prop)
      (hit : it = .ref I) (W : Walks prog w A I fp [I] n P S) (hlive : ∀ i h, S i h → ∃ o, h.get? I = some o) (hn : n ≤ sizeLine)
      (X : Ow s₀ g (own ++ [(I, PI)]) s₂) (hS : S 0 s₂.heap) (hfp : ∀ b ∈ fp, b ≠ I → ∃ o, g.get? b = some o) (hJ : J 0 [] g own)
      (turn : ∀ C i g' m' own' ys v D oI s' E', s₂.heap.get? C = none → s₂.heap.get? D = none → i < n → Ext g g' → J i ys g' own' → P i v → St s₀ g' (cEnv scope cl C env) (cOc scope C) (upd m' x v) (own' ++ [(D, listO ys), (I, (· = oI))]) s' →
        wpAny (model prog w) A (tests prog w ifs (cEnv scope cl C env)) (fun ok s₃ => if ok = true then wpAny (model prog w) A (eval elt (cEnv scope cl C env)) (fun y s₄ => ∃ g'' m'' own'', Ext g' g'' ∧ J (i + 1) (ys ++ [y]) g'' own'' ∧ St s₀ g'' (cEnv scope cl C env) (cOc scope C) m'' (own'' ++ [(D, listO ys), (I, (· = oI))]) s₄) E' s₃
          else ∃ g'' m'' own'', Ext g' g'' ∧ J (i + 1) ys g'' own'' ∧ St s₀ g'' (cEnv scope cl C env) (cOc scope C) m'' (own'' ++ [(D, listO ys), (I, (· = oI))]) s₃) E' s')
      (done : K s₀ g n J) : CompGo prog w A env x ifs elt scope cl it s₂ K

/-- a list comprehension, in full -/
theorem comp_full {elt iter : Expr} {ifs : List Expr} {scope : Scope} {cl : List (Str × Addr)} {Q : Value → Shared → Prop}
    (hclos : closureFor scope env = pure cl) (hkind : scope.kind = .function) (hnames : (scope.names.all fun y => y.2 != .local || scope.names.lookup y.1 == some .local) = true)
    (hcells : (scope.names.all fun y => y.2 != .cell || scope.names.lookup y.1 == some .cell) = true)
    (hx : scope.names.lookup x = some .local ∨ (scope.names.lookup x = some .cell ∧ ∀ C, ∃ c, (cOc scope C).lookup x = some c))
    (h : wpAny (model prog w) A (eval iter env) (fun xv s₁ => wpAny (model prog w) A (pyIter xv) (fun it s₂ => CompGo prog w A env x ifs elt scope cl it s₂ fun s₀ g n J =>
      (∀ D ys g' own' s', s₂.heap.get? D = none → Ext g g' → J n ys g' own' → Ow s₀ g' (own' ++ [(D, listO ys)]) s' → Q (.ref D) s')) E s₁) E s)
    (hs : ∀ x, foldedSetIterable iter env x = pure x) :
    wpAny (model prog w) A (eval (.ListComp elt [⟨.Name x px, iter, ifs, 0⟩] scope pos) env) Q E s := by
  rw [eval_ListComp]
  refine wpAny_comprehension_free (use := none) rfl hs hclos hkind (fun y hy hl => ?_) (wpAny_mono h (fun xv s₁ h₁ => wpAny_mono h₁ (fun it s₂ h₂ => ?_) fun _ _ e => e) fun _ _ e => e)
  · have := List.all_eq_true.mp hnames y hy
    simpa [hl] using this
  obtain ⟨s₀, g, own, I, PI, fp, n, P, S, J, rfl, W, hlive, hn, X, hS, hfp, hJ, turn, done⟩ := h₂
  refine comp_block (RR := fun acc C => compPost (model prog w) A E none Q acc C) W hlive hn J X hS hfp hJ hkind hcells hx turn ?_
  intro D C ys g' own' s' mC hD hC hns hg hJ' Y hgC hoC
  refine ⟨mC, hns, fun h'' hs'' => done D ys g' own' _ hD hg hJ' (Y.step h'' s'.toks [C] (fun b o hb e => hs''.extBut b o (fun q => hb (by rw [q]; exact .head _)) e) ?_ ?_)⟩
  · intro b hb; rw [List.mem_singleton.mp hb]; exact hgC
  · intro p hp hb; exact hoC p hp (List.mem_singleton.mp hb)

/-- a list comprehension whose value a local takes -/
theorem comp_assign {y : Str} {py spos : Pos} {elt iter : Expr} {ifs : List Expr} {scope : Scope} {cl : List (Str × Addr)} {Q : Flow → Shared → Prop}
    (hsw : swapsWith (.ListComp elt [⟨.Name x px, iter, ifs, 0⟩] scope pos) (some (.Name y py)) spos.line env = pure true)
    (hclos : closureFor scope env = pure cl) (hkind : scope.kind = .function) (hnames : (scope.names.all fun y => y.2 != .local || scope.names.lookup y.1 == some .local) = true)
    (hcells : (scope.names.all fun y => y.2 != .cell || scope.names.lookup y.1 == some .cell) = true)
    (hx : scope.names.lookup x = some .local ∨ (scope.names.lookup x = some .cell ∧ ∀ C, ∃ c, (cOc scope C).lookup x = some c))
    (hke : env.scope.kind = .function) (hy : env.kindOf y = some .local)
    (h : wpAny (model prog w) A (eval iter env) (fun xv s₁ => wpAny (model prog w) A (pyIter xv) (fun it s₂ => CompGo prog w A env x ifs elt scope cl it s₂ fun s₀ g n J =>
      (∀ D C ys g' own' s', s₂.heap.get? D = none → s₂.heap.get? C = none → Ext g g' → J n ys g' own' → Ow s₀ g' (own' ++ [(D, listO ys)]) s' → g'.get? C = none → (∀ p ∈ own' ++ [(D, listO ys)], p.1 ≠ C) →
        ∃ s₉ g₉ oc own₉ m₉, (∀ c, oc.lookup y ≠ some c) ∧ St s₉ g₉ env oc m₉ own₉ s' ∧ g₉.get? C = none ∧ C ≠ env.locals ∧ (∀ n c, oc.lookup n = some c → c ≠ C) ∧ (∀ p ∈ own₉, p.1 ≠ C) ∧
          ∀ s'', St s₉ g₉ env oc (upd m₉ y (.ref D)) own₉ s'' → Q .next s'')) E s₁) E s)
    (hs : ∀ x, foldedSetIterable iter env x = pure x) :
    wpAny (model prog w) A (exec (.Assign [.Name y py] (.ListComp elt [⟨.Name x px, iter, ifs, 0⟩] scope pos) spos) env) Q E s := by
  rw [exec_Assign_Name_used _ _ _ _ hsw]
  refine wpAny_bind (wpAny_standAt (wpAny_bind ?_))
  show wpAny _ A (do let _ ← comprehension (.ListComp elt [⟨.Name x px, iter, ifs, 0⟩] scope pos) scope env _ (newList []) false (eval iter env) (some (assign (.Name y py) env))) _ _ s
  refine wpAny_bind (wpAny_mono (wpAny_comprehension_free (use := some (assign (.Name y py) env)) (Q := fun _ s' => Q .next s') rfl hs hclos hkind (fun z hz hl => ?_)
    (wpAny_mono h (fun xv s₁ h₁ => wpAny_mono h₁ (fun it s₂ h₂ => ?_) fun _ _ e => e) fun _ _ e => e)) (fun _ s' hq => wpAny_pure (wpAny_pure hq)) fun _ _ e => e)
  · have := List.all_eq_true.mp hnames z hz
    simpa [hl] using this
  obtain ⟨s₀, g, own, I, PI, fp, n, P, S, J, rfl, W, hlive, hn, X, hS, hfp, hJ, turn, done⟩ := h₂
  refine comp_block (RR := fun acc C => compPost (model prog w) A E (some (assign (.Name y py) env)) (fun _ s' => Q .next s') acc C) W hlive hn J X hS hfp hJ hkind hcells hx turn ?_
  intro D C ys g' own' s' mC hD hC hns hg hJ' Y hgC hoC
  obtain ⟨s₉, g₉, oc, own₉, m₉, hyo, Z, z1, z2, z3, z4, hQ⟩ := done D C ys g' own' s' hD hC hg hJ' Y hgC hoC
  show wpAny _ A (assign (.Name y py) env (.ref D)) _ _ _
  -- the block's dict is followed as one of one's own
  obtain ⟨oC, esC, epC, hoC', hrC⟩ := hns
  have Z' : St s₉ g₉ env oc m₉ ((C, (· = oC)) :: own₉) s' := Z.add_own (P := (· = oC)) hoC' rfl z1 z2 (fun n c e q => z3 n c e q.symm) z4
  refine assign_st Z' hke (.inl ⟨hy, hyo⟩) fun s'' U => ?_
  obtain ⟨oC2, e2, q2⟩ := U.mine _ (.head _)
  have e3 : s''.heap.get? C = some oC := e2.trans (congrArg some q2)
  refine ⟨mC, ⟨oC, esC, epC, e3, hrC⟩, fun h3 hs3 => hQ _ ?_⟩
  refine (U.drop_own (List.sublist_cons_self _ _)).step h3 s''.toks [C] (fun b o hb e => hs3.extBut b o (fun q => hb (by rw [q]; exact .head _)) e) ?_ ?_ ?_ ?_
  · intro b hb; rw [List.mem_singleton.mp hb]; exact z1
  · intro hb; exact z2 (List.mem_singleton.mp hb).symm
  · intro n c e hb; exact z3 n c e (List.mem_singleton.mp hb)
  · intro p hp hb; exact z4 p hp (List.mem_singleton.mp hb)
end
end Mine

/-! part F6 -/
open PySem PySem.W PySem.Calls PyProof.Rows
set_option Elab.async false
set_option linter.unusedVariables false
namespace Mine

/-- the value can be walked over; src: what the walk reads besides the walker -/
structure IterS (prog : Program) (w : World) (A : Around) (xv : Value) (s : Shared) (n : Nat) (P : Nat → Value → Prop) (src : List Addr) : Prop where
  iter : ∃ (o : Obj) (fp : List Addr) (S : Nat → Heap → Prop), (∀ Q E, Q (.ref s.heap.objs.size) { s with heap := s.heap.push o } → wpAny (model prog w) A (pyIter xv) Q E s) ∧
    Walks prog w A s.heap.objs.size fp [s.heap.objs.size] n P S ∧ S 0 (s.heap.push o) ∧ (∀ i h, S i h → ∃ o, h.get? s.heap.objs.size = some o) ∧ o.isFreed = false ∧
    (∀ b ∈ fp, b ≠ s.heap.objs.size → b ∈ src ∧ ∃ o', s.heap.get? b = some o')
def IterAt (prog : Program) (w : World) (A : Around) (xv : Value) (s : Shared) (n : Nat) (P : Nat → Value → Prop) : Prop := ∃ src, IterS prog w A xv s n P src

theorem fits_small {i : Int} (h : i.natAbs ≤ 4000000) : Builtin.Range.rangeFitsLong i = true := by
  have h1 : (i.natAbs : Int) ≤ 4000000 := Int.ofNat_le.mpr h
  have h2 : -i ≤ (i.natAbs : Int) := Int.natAbs_neg i ▸ Int.le_natAbs (a := -i)
  have h3 : (-4000000 : Int) ≤ i := Int.neg_le_of_neg_le (Int.le_trans h2 h1)
  have h4 : i ≤ 4000000 := Int.le_trans Int.le_natAbs h1
  unfold Builtin.Range.rangeFitsLong
  rw [decide_eq_true (Int.le_trans (by decide) h3), decide_eq_true (Int.lt_of_le_of_lt h4 (by decide))]
  rfl
theorem small_pos {a b c : Int} {n : Nat} (hc : 0 < c) (hz : Builtin.Range.rangeSize a b c = (n : Int)) (h1 : a.natAbs ≤ 4000000) (h2 : b.natAbs ≤ 4000000) (h3 : c.natAbs ≤ 4000000) (h4 : n ≤ 4000000) (h5 : (b + (c - 1)).natAbs ≤ 4000000) :
    Builtin.Range.small a b c = true := by
  unfold Builtin.Range.small
  rw [hz, fits_small h1, fits_small h2, fits_small h3, fits_small (i := (n : Int)) h4, if_pos hc, fits_small h5, Bool.or_true]
  rfl
theorem size_one {a b : Int} : Builtin.Range.rangeSize a b 1 = ((b - a).toNat : Int) := by
  unfold Builtin.Range.rangeSize
  rw [if_pos (by decide)]
  by_cases h : a < b
  · rw [if_pos h, Int.ediv_one, Int.sub_add_cancel, Int.toNat_of_nonneg (Int.sub_nonneg.2 (Int.le_of_lt h))]
  · rw [if_neg h, Int.toNat_of_nonpos (Int.sub_nonpos_of_le (Int.not_lt.mp h))]; rfl
section
variable {prog : Program} {w : World} {A : Around} {s : Shared}
theorem iterS_range {r : Addr} {a b c : Int} {t u v : Tok} {n : Nat} (hh : A.handled = none) (hr : IsRange s.heap r a b c t u v) (hsmall : Builtin.Range.small a b c = true) (hn : Builtin.Range.rangeSize a b c = (n : Int)) :
    IterS prog w A (.ref r) s n (fun i v => ∃ t, v = .int (a + i * c) t) [] :=
  ⟨_, _, _, fun Q E h => wpAny_pyIter_range hr hsmall h, Walks.range hh s.heap.objs.size a c n, (by show IsRangeIter _ _ _ _ _; rw [hn]; simpa using Heap.get?_push_size _ rfl), fun i h st => ⟨_, st⟩, rfl, by simp⟩
theorem iterS_list {l : Addr} {items : Array Value} (hh : A.handled = none) (hl : s.heap.IsList l items) : IterS prog w A (.ref l) s items.size (fun i v => items[i]? = some v) [l] := by
  obtain ⟨ol, hol, _⟩ := id hl
  exact ⟨_, _, _, fun Q E h => wpAny_pyIter_list hl h, Walks.list hh s.heap.objs.size l (Nat.ne_of_lt (Heap.lt_size hol)) items, ⟨⟨_, Heap.get?_push_size _ rfl, rfl, rfl⟩, hl.push _⟩,
    (fun i h st => let ⟨⟨o, e, _⟩, _⟩ := st; ⟨o, e⟩), rfl, by simpa using fun _ => ⟨ol, hol⟩⟩
theorem iterS_str {x : Str} {t : Tok} (hh : A.handled = none) (ha : x.cps.all (· < 128) = true) : IterS prog w A (.str x t) s x.cps.size (SignAt x) [] :=
  ⟨_, _, _, fun Q E h => wpAny_pyIter_ascii ha h, Walks.strAscii hh s.heap.objs.size x t, ⟨_, Heap.get?_push_size _ rfl, rfl, rfl⟩, (fun i h st => let ⟨o, e, _⟩ := st; ⟨o, e⟩), rfl, by simp⟩
theorem IterS.mono {xv : Value} {n : Nat} {P P' : Nat → Value → Prop} {src : List Addr} (x : IterS prog w A xv s n P src) (h : ∀ i v, P i v → P' i v) : IterS prog w A xv s n P' src := by
  obtain ⟨o, fp, S, a, W, r⟩ := x.iter
  exact ⟨o, fp, S, a, { sub := W.sub, frame := W.frame, item := fun i s Q E hi hs hq => W.item i s Q E hi hs fun v h' tk p => hq v h' tk (h i v p), done := W.done, self := W.self }, r⟩
theorem IterS.cast {xv : Value} {n n' : Nat} {P : Nat → Value → Prop} {src : List Addr} (x : IterS prog w A xv s n P src) (h : n = n') : IterS prog w A xv s n' P src := h ▸ x
theorem iterS_rA {r : Addr} {a b : Int} {t u v : Tok} {n : Nat} (hh : A.handled = none) (hr : IsRange s.heap r a b 1 t u v) (hb : n = (b - a).toNat) (ha : a.natAbs < 1000000) (hn : b.natAbs < 1000000) : IterS prog w A (.ref r) s n (fun i v => ∃ t, v = .int (a + i) t) [] := by
  subst hb
  refine (iterS_range hh hr (small_pos (by decide) size_one (Nat.le_trans (Nat.le_of_lt ha) (by decide)) (Nat.le_trans (Nat.le_of_lt hn) (by decide)) (by decide) (by omega) (by rw [Int.sub_self, Int.add_zero]; exact Nat.le_trans (Nat.le_of_lt hn) (by decide))) size_one).mono fun i v h => h.imp fun t e => e.trans (by rw [Int.mul_one])
theorem iterS_r0 {r : Addr} {b : Int} {t u v : Tok} {n : Nat} (hh : A.handled = none) (hr : IsRange s.heap r 0 b 1 t u v) (hb : b = (n : Int)) (hn : n < 1000000) : IterS prog w A (.ref r) s n (fun i v => ∃ t, v = .int (i : Int) t) [] := by
  subst hb
  exact (iterS_rA hh hr (by rw [Int.sub_zero]; rfl) (by decide) hn).mono fun i v h => h.imp fun t e => e.trans (by rw [Int.zero_add])
theorem iterAt_list {l : Addr} {items : Array Value} (hh : A.handled = none) (hl : s.heap.IsList l items) : IterAt prog w A (.ref l) s items.size (fun i v => items[i]? = some v) := ⟨_, iterS_list hh hl⟩
theorem iterAt_r0 {r : Addr} {b : Int} {t u v : Tok} {n : Nat} (hh : A.handled = none) (hr : IsRange s.heap r 0 b 1 t u v) (hb : b = (n : Int)) (hn : n < 1000000) : IterAt prog w A (.ref r) s n (fun i v => ∃ t, v = .int (i : Int) t) := ⟨_, iterS_r0 hh hr hb hn⟩
theorem iterAt_rA {r : Addr} {a b : Int} {t u v : Tok} {n : Nat} (hh : A.handled = none) (hr : IsRange s.heap r a b 1 t u v) (hb : n = (b - a).toNat) (ha : a.natAbs < 1000000) (hn : b.natAbs < 1000000) : IterAt prog w A (.ref r) s n (fun i v => ∃ t, v = .int (a + i) t) := ⟨_, iterS_rA hh hr hb ha hn⟩
end

/-- new objects stand there -/
def NewIn (h h' g : Heap) : Prop := ∀ b o, h'.get? b = some o → h.get? b = none → g.get? b = some o

section
variable {prog : Program} {w : World} {A : Around} {E : Value → Shared → Prop} {s₀ s : Shared} {g : Heap} {env : Env} {oc : List (Str × Addr)} {m : Str → Option Value} {own : Own} {x : Str} {px pos : Pos}

def hidOf (env : Env) (oc : List (Str × Addr)) (own : Own) : List Addr := env.locals :: own.map (·.1) ++ (oc.map (·.1)).filterMap fun n => oc.lookup n
theorem hid_cell {env : Env} {oc : List (Str × Addr)} {own : Own} {n : Str} {c : Addr} (e : oc.lookup n = some c) : c ∈ hidOf env oc own :=
  List.mem_append_right _ (List.mem_filterMap.mpr ⟨n, List.mem_map.mpr ⟨(n, c), mem_of_lookup e, rfl⟩, e⟩)
theorem hid_own {env : Env} {oc : List (Str × Addr)} {own : Own} {p : Addr × (Obj → Prop)} (e : p ∈ own) : p.1 ∈ hidOf env oc own :=
  List.mem_append_left _ (.tail _ (List.mem_map.mpr ⟨p, e, rfl⟩))
theorem hid_L {env : Env} {oc : List (Str × Addr)} {own : Own} : env.locals ∈ hidOf env oc own := List.mem_append_left _ (.head _)
theorem St.hid_stands (X : St s₀ g env oc m own s) {b : Addr} (hb : b ∈ hidOf env oc own) : ∃ o, s.heap.get? b = some o := by
  rcases List.mem_append.mp hb with hb | hb
  · rcases List.mem_cons.mp hb with rfl | hb
    · obtain ⟨ml, ⟨o, _, _, e, _⟩, _⟩ := X.ns; exact ⟨o, e⟩
    · obtain ⟨p, hp, rfl⟩ := List.mem_map.mp hb
      obtain ⟨o, e, _⟩ := X.mine p hp; exact ⟨o, e⟩
  · obtain ⟨n, _, e⟩ := List.mem_filterMap.mp hb
    obtain ⟨o, e, _⟩ := X.cell n b e; exact ⟨o, e⟩
theorem St.g_hid (X : St s₀ g env oc m own s) {b : Addr} (hb : b ∈ hidOf env oc own) : g.get? b = none := by
  rcases List.mem_append.mp hb with hb | hb
  · rcases List.mem_cons.mp hb with rfl | hb
    · exact X.gL
    · obtain ⟨p, hp, rfl⟩ := List.mem_map.mp hb
      exact (X.gO p hp).1
  · obtain ⟨n, _, e⟩ := List.mem_filterMap.mp hb
    exact (X.gC n b e).1
/-- another ground, grown -/
theorem St.rebase {s' : Shared} {g' : Heap} (X : St s₀ g env oc m own s) (k : Keeps s s') (h1 : Ext g' s'.heap) (h2 : ∀ b ∈ hidOf env oc own, g'.get? b = none) : St s₀ g' env oc m own s' :=
  { X.keeps k with
    keep := h1
    gL := h2 _ hid_L
    gC := fun n c e => ⟨h2 _ (hid_cell e), (X.gC n c e).2⟩
    gO := fun p hp => ⟨h2 _ (hid_own hp), (X.gO p hp).2⟩ }
def restr (h : Heap) (p : Addr → Bool) : Heap := hideAll h ((List.range h.objs.size).filter fun b => !p b)
theorem restr_get {h : Heap} {p : Addr → Bool} {b : Addr} {o : Obj} (e : h.get? b = some o) (hp : p b = true) : (restr h p).get? b = some o :=
  hideAll_get _ e fun hb => by have := (List.mem_filter.mp hb).2; rw [hp] at this; cases this
theorem restr_of {h : Heap} {p : Addr → Bool} {b : Addr} {o : Obj} (e : (restr h p).get? b = some o) : h.get? b = some o ∧ p b = true := by
  refine ⟨of_hideAll _ e, ?_⟩
  cases q : p b with
  | true => rfl
  | false =>
    have : (restr h p).get? b = none := hideAll_none _ (List.mem_filter.mpr ⟨List.mem_range.mpr (Heap.lt_size (of_hideAll _ e)), by rw [q]; rfl⟩)
    rw [this] at e; cases e
theorem restr_none {h : Heap} {p : Addr → Bool} {b : Addr} (hp : p b = false) : (restr h p).get? b = none := by
  cases e : (restr h p).get? b with
  | none => rfl
  | some o => have := (restr_of e).2; rw [hp] at this; cases this

/-- the words of a comprehension that only makes: what holds of the first i items -/
abbrev CompTurn (prog : Program) (w : World) (A : Around) (env : Env) (x : Str) (ifs : List Expr) (elt : Expr) (scope : Scope) (cl : List (Str × Addr)) (g h₁ : Heap) (n : Nat) (P : Nat → Value → Prop) (F : Nat → List Value → Heap → Prop) : Prop :=
  ∀ C i s₂ g' gF m' own' ys v s₃ E', i < n → Ext g gF → Ext gF s₃.heap → Ext h₁ s₃.heap → h₁.get? C = none → F i ys gF → P i v → St s₂ g' (cEnv scope cl C env) (cOc scope C) (upd m' x v) own' s₃ →
    wpAny (model prog w) A (tests prog w ifs (cEnv scope cl C env)) (fun ok s₄ => Keeps s₃ s₄ ∧ if ok = true then wpAny (model prog w) A (eval elt (cEnv scope cl C env)) (fun y s₅ => Keeps s₄ s₅ ∧
        ∀ g'', Ext gF g'' → NewIn s₃.heap s₅.heap g'' → F (i + 1) (ys ++ [y]) g'') E' s₄
      else F (i + 1) ys gF) E' s₃

theorem compGo_of {elt : Expr} {ifs : List Expr} {scope : Scope} {cl : List (Str × Addr)} {xv : Value} {n : Nat} {P : Nat → Value → Prop} {R : Value → Shared → Prop} (X : St s₀ g env oc m own s) (hI : IterAt prog w A xv s n P) (hn : n ≤ sizeLine) (F : Nat → List Value → Heap → Prop)
    (hmono : ∀ i ys h h', Ext h h' → F i ys h → F i ys h')
    (h0 : F 0 [] g) (turn : CompTurn prog w A env x ifs elt scope cl g s.heap n P F)
    {K : Shared → Shared → Heap → Nat → (Nat → List Value → Heap → Own → Prop) → Prop}
    (hK : ∀ s₂ s₀' g' J, Keeps s s₂ → (∀ C, s₂.heap.get? C = none → s.heap.get? C = none) →
      (∀ D ys g'' own' s', s₂.heap.get? D = none → Ext g' g'' → J n ys g'' own' → Ow s₀' g'' (own' ++ [(D, listO ys)]) s' →
        ∃ gF, Ext g gF ∧ Ext gF s'.heap ∧ (∀ b ∈ hidOf env oc own, gF.get? b = none) ∧ gF.PlainList D ys.toArray ∧ F n ys gF ∧ Keeps s s' ∧ s.heap.get? D = none ∧ (∀ C, s₂.heap.get? C = none → g''.get? C = none → C ≠ D → gF.get? C = none)) →
      K s₂ s₀' g' n J) :
    wpAny (model prog w) A (pyIter xv) (fun it s₂ => CompGo prog w A env x ifs elt scope cl it s₂ (K s₂)) E s := by
  obtain ⟨src, hI⟩ := hI
  obtain ⟨o, fp, S, hit, W, hS, hlive, hfr, hfp⟩ := hI.iter
  refine hit _ _ ?_
  -- the ground of the block: all but the walker
  let h2 : Heap := s.heap.push o
  have hoI : h2.get? s.heap.objs.size = some o := Heap.get?_push_size _ hfr
  have hIn : s.heap.get? s.heap.objs.size = none := fresh_ge (Nat.le_refl _)
  have k2 : Ext s.heap h2 := fun b o e => Heap.get?_push_of_some _ e
  have Xo : Ow { s with heap := h2 } (hideAll h2 [s.heap.objs.size]) ([] ++ [(s.heap.objs.size, (· = o))]) { s with heap := h2 } := {
    same := ⟨_, _, rfl⟩
    keep := fun b o e => of_hideAll _ e
    mine := fun p hp => by rw [List.mem_singleton.mp hp]; exact ⟨o, hoI, rfl⟩
    gO := fun p hp => by rw [List.mem_singleton.mp hp]; exact hideAll_none _ (.head _)
    aO := List.pairwise_singleton _ _ }
  have sub1 : Ext s.heap (hideAll h2 [s.heap.objs.size]) := fun b o e => hideAll_get _ (k2 b o e) fun hb => Nat.ne_of_lt (Heap.lt_size e) (List.mem_singleton.mp hb)
  have hidne : ∀ b ∈ hidOf env oc own, ∃ o', s.heap.get? b = some o' := fun b hb => X.hid_stands hb
  refine ⟨{ s with heap := h2 }, hideAll h2 [s.heap.objs.size], [], s.heap.objs.size, (· = o), fp, n, P, S, fun i ys gg own' => own' = [] ∧ F i ys (hideAll gg (hidOf env oc own)), rfl, W, hlive, hn, Xo, hS, ?_, ⟨rfl, ?_⟩, ?_, ?_⟩
  · intro b hb hne
    obtain ⟨_, o', e⟩ := hfp b hb hne
    exact ⟨o', sub1 b o' e⟩
  · exact hmono _ _ _ _ (fun b o e => hideAll_get _ (sub1 b o (X.keep b o e)) fun hb => by rw [X.g_hid hb] at e; cases e) h0
  · intro C i g' m' own' ys v D oI s' E' hC hD hi hg hJ hP Y
    obtain ⟨rfl, hF⟩ := hJ
    have e1 : Ext s.heap s'.heap := fun b o e => Y.keep b o (hg b o (sub1 b o e))
    have e2 : Ext (hideAll g' (hidOf env oc own)) s'.heap := fun b o e => Y.keep b o (of_hideAll _ e)
    have e3 : Ext g (hideAll g' (hidOf env oc own)) := fun b o e => hideAll_get _ (hg b o (sub1 b o (X.keep b o e))) fun hb => by rw [X.g_hid hb] at e; cases e
    have hC1 : s.heap.get? C = none := by
      cases e : s.heap.get? C with
      | none => rfl
      | some o' => rw [k2 C o' e] at hC; cases hC
    refine wpAny_mono (turn C i _ g' _ m' _ ys v s' E' hi e3 e2 e1 hC1 hF hP Y) (fun ok s₄ q => ?_) fun _ _ e => e
    obtain ⟨k4, q⟩ := q
    have Y4 := Y.keeps k4
    cases ok with
    | false =>
      exact ⟨g', _, [], Ext.refl _, ⟨rfl, q⟩, Y4⟩
    | true =>
      rw [if_pos rfl] at q ⊢
      refine wpAny_mono q (fun y s₅ q' => ?_) fun _ _ e => e
      obtain ⟨k5, q'⟩ := q'
      have Y5 := Y4.keeps k5
      obtain ⟨g'', hg'', Z, up⟩ := Y5.ground
      refine ⟨g'', _, [], hg'', ⟨rfl, q' _ ?_ ?_⟩, Z⟩
      · intro b o e
        refine hideAll_get _ (hg'' b o (of_hideAll _ e)) fun hb => ?_
        rw [hideAll_none _ hb] at e; cases e
      · intro b o e en
        have ap := Y.apart en
        refine hideAll_get _ (up b o e ap.2.1.symm.symm ap.2.2.1 ap.2.2.2) fun hb => ?_
        obtain ⟨o', e'⟩ := hidne b hb
        rw [e1 b o' e'] at en; cases en
  · refine hK _ _ _ _ ⟨h2, s.toks, rfl, k2⟩ (fun C hC => ?_) ?_
    · cases e : s.heap.get? C with
      | none => rfl
      | some o' => rw [k2 C o' e] at hC; cases hC
    · intro D ys g'' own' s' hD hg hJ Y
      obtain ⟨rfl, hF⟩ := hJ
      obtain ⟨oD, hoD, hpD⟩ := Y.mine (D, listO ys) (.head _)
      have hD1 : s.heap.get? D = none := by
        cases e : s.heap.get? D with
        | none => rfl
        | some o' => rw [k2 D o' e] at hD; cases hD
      have hgD := Y.gO (D, listO ys) (.head _)
      -- the ground with the new list
      have hDh : D ∉ hidOf env oc own := fun hb => by obtain ⟨o', e⟩ := hidne D hb; rw [hD1] at e; cases e
      let p : Addr → Bool := fun b => (b == D || (g''.get? b).isSome) && !(hidOf env oc own).contains b
      have pD : p D = true := by simp [p, hDh]
      have pg : ∀ b o, g''.get? b = some o → b ∉ hidOf env oc own → p b = true := fun b o e hb => by simp [p, e, hb]
      have sub2 : Ext (hideAll g'' (hidOf env oc own)) (restr s'.heap p) := fun b o e => by
        have e1 := of_hideAll _ e
        refine restr_get (Y.keep b o e1) (pg b o e1 fun hb => ?_)
        rw [hideAll_none _ hb] at e; cases e
      have ks : Keeps s s' := by
        obtain ⟨h', tk, e⟩ := Y.same
        subst e
        exact ⟨h', tk, rfl, fun b o e => Y.keep b o (hg b o (sub1 b o e))⟩
      refine ⟨restr s'.heap p, ?_, fun b o e => (restr_of e).1, fun b hb => restr_none (by simp [p, hb]), ?_, hmono _ _ _ _ sub2 hF, ks, hD1, ?_⟩
      · intro b o e
        refine sub2 b o (hideAll_get _ (hg b o (sub1 b o (X.keep b o e))) fun hb => ?_)
        rw [X.g_hid hb] at e; cases e
      · exact plain_of (restr_get hoD pD) hpD
      · intro C _ hgC hCD
        exact restr_none (by simp [p, hgC, hCD])

/-- what a comprehension that only makes asks of the value it walks over -/
inductive CompMk (prog : Program) (w : World) (A : Around) (env : Env) (x : Str) (ifs : List Expr) (elt : Expr) (scope : Scope) (cl : List (Str × Addr)) (F : Nat → List Value → Heap → Prop) (Q : Value → Shared → Prop) (xv : Value) (s₁ : Shared) : Prop
  | mk (s₀ : Shared) (g : Heap) (oc : List (Str × Addr)) (m : Str → Option Value) (own : Own) (n : Nat) (P : Nat → Value → Prop) (X : St s₀ g env oc m own s₁) (hI : IterAt prog w A xv s₁ n P) (hn : n ≤ sizeLine) (h0 : F 0 [] g)
      (turn : CompTurn prog w A env x ifs elt scope cl g s₁.heap n P F)
      (done : ∀ D ys g' s', Ext g g' → St s₀ g' env oc m own s' → Keeps s₁ s' → s₁.heap.get? D = none → g'.PlainList D ys.toArray → F n ys g' → Q (.ref D) s') : CompMk prog w A env x ifs elt scope cl F Q xv s₁
inductive CompAsg (prog : Program) (w : World) (A : Around) (env : Env) (x y : Str) (ifs : List Expr) (elt : Expr) (scope : Scope) (cl : List (Str × Addr)) (F : Nat → List Value → Heap → Prop) (Q : Flow → Shared → Prop) (xv : Value) (s₁ : Shared) : Prop
  | mk (s₀ : Shared) (g : Heap) (oc : List (Str × Addr)) (m : Str → Option Value) (own : Own) (n : Nat) (P : Nat → Value → Prop) (X : St s₀ g env oc m own s₁) (hI : IterAt prog w A xv s₁ n P) (hn : n ≤ sizeLine) (h0 : F 0 [] g)
      (turn : CompTurn prog w A env x ifs elt scope cl g s₁.heap n P F) (hy : ∀ c, oc.lookup y ≠ some c)
      (done : ∀ D ys g' s', Ext g g' → s₁.heap.get? D = none → St s₀ g' env oc (upd m y (.ref D)) own s' → g'.PlainList D ys.toArray → F n ys g' → Q .next s') : CompAsg prog w A env x y ifs elt scope cl F Q xv s₁
section
variable {elt iter : Expr} {ifs : List Expr} {scope : Scope} {cl : List (Str × Addr)}
/-- a list comprehension that only makes, as an expression: `iter` leads to a state with St -/
theorem comp_mk {Q : Value → Shared → Prop} (F : Nat → List Value → Heap → Prop)
    (h : wpAny (model prog w) A (eval iter env) (CompMk prog w A env x ifs elt scope cl F Q) E s)
    (hmono : ∀ i ys h h', Ext h h' → F i ys h → F i ys h')
    (hclos : closureFor scope env = pure cl) (hkind : scope.kind = .function) (hnames : (scope.names.all fun y => y.2 != .local || scope.names.lookup y.1 == some .local) = true)
    (hcells : (scope.names.all fun y => y.2 != .cell || scope.names.lookup y.1 == some .cell) = true)
    (hx : scope.names.lookup x = some .local ∨ (scope.names.lookup x = some .cell ∧ ∀ C, ∃ c, (cOc scope C).lookup x = some c))
    (hs : ∀ x, foldedSetIterable iter env x = pure x) :
    wpAny (model prog w) A (eval (.ListComp elt [⟨.Name x px, iter, ifs, 0⟩] scope pos) env) Q E s := by
  refine comp_full hclos hkind hnames hcells hx (wpAny_mono h (fun xv s₁ h₁ => ?_) fun _ _ e => e) hs
  obtain ⟨s₀, g, oc, m, own, n, P, X, hI, hn, h0, turn, hQ⟩ := h₁
  refine compGo_of (R := Q) X hI hn F hmono h0 turn ?_
  intro s₂ s₀' g' J k12 hC12 fin D ys g'' own' s' hD hg hJ Y
  obtain ⟨gF, h1, h2, h3, h4, h5, h6, h7, _⟩ := fin D ys g'' own' s' hD hg hJ Y
  exact hQ D ys gF s' h1 (X.rebase h6 h2 h3) h6 h7 h4 h5

/-- the same, taken by a local name -/
theorem comp_mk_assign {y : Str} {py spos : Pos} {Q : Flow → Shared → Prop} (F : Nat → List Value → Heap → Prop)
    (h : wpAny (model prog w) A (eval iter env) (CompAsg prog w A env x y ifs elt scope cl F Q) E s)
    (hmono : ∀ i ys h h', Ext h h' → F i ys h → F i ys h')
    (hsw : swapsWith (.ListComp elt [⟨.Name x px, iter, ifs, 0⟩] scope pos) (some (.Name y py)) spos.line env = pure true)
    (hclos : closureFor scope env = pure cl) (hkind : scope.kind = .function) (hnames : (scope.names.all fun y => y.2 != .local || scope.names.lookup y.1 == some .local) = true)
    (hcells : (scope.names.all fun y => y.2 != .cell || scope.names.lookup y.1 == some .cell) = true)
    (hx : scope.names.lookup x = some .local ∨ (scope.names.lookup x = some .cell ∧ ∀ C, ∃ c, (cOc scope C).lookup x = some c))
    (hke : env.scope.kind = .function) (hy : env.kindOf y = some .local)
    (hs : ∀ x, foldedSetIterable iter env x = pure x) :
    wpAny (model prog w) A (exec (.Assign [.Name y py] (.ListComp elt [⟨.Name x px, iter, ifs, 0⟩] scope pos) spos) env) Q E s := by
  refine comp_assign hsw hclos hkind hnames hcells hx hke hy (wpAny_mono h (fun xv s₁ h₁ => ?_) fun _ _ e => e) hs
  obtain ⟨s₀, g, oc, m, own, n, P, X, hI, hn, h0, turn, hyo, hQ⟩ := h₁
  refine compGo_of (R := fun _ => Q .next) X hI hn F hmono h0 turn ?_
  intro s₂ s₀' g' J k12 hC12 fin D C ys g'' own' s' hD hC hg hJ Y hgC hoC
  obtain ⟨gF, h1, h2, h3, h4, h5, h6, h7, h8⟩ := fin D ys g'' own' s' hD hg hJ Y
  have Z := X.rebase h6 h2 h3
  have hC1 := hC12 C hC
  have ap := X.apart hC1
  refine ⟨s₀, gF, oc, own, m, hyo, Z, h8 C hC hgC (fun q => hoC _ (List.mem_append_right _ (.head _)) q.symm), ap.2.1, ap.2.2.1, ap.2.2.2, fun s'' Z' => hQ D ys gF s'' h1 h7 Z' h4 h5⟩
end

/-- what a for loop by an invariant asks of the value it walks over -/
inductive ForGo (prog : Program) (w : World) (A : Around) (env : Env) (x : Str) (body : List Stmt) (Q : Flow → Shared → Prop) (E : Value → Shared → Prop) (xv : Value) (s₁ : Shared) : Prop
  | mk (s₀ : Shared) (g : Heap) (oc : List (Str × Addr)) (m : Str → Option Value) (own fr : Own) (n : Nat) (P : Nat → Value → Prop) (src : List Addr) (J : Nat → Heap → (Str → Option Value) → Own → Prop) (X : St s₀ g env oc m (own ++ fr) s₁)
      (hI : IterS prog w A xv s₁ n P src) (hsrc : ∀ b ∈ src, ∃ o, g.get? b = some o)
      (hx : (env.kindOf x = some .local ∧ ∀ c, oc.lookup x ≠ some c) ∨ (env.kindOf x = some .cell ∧ ∃ c, oc.lookup x = some c ∧ env.cells.lookup x = some c)) (h0 : J 0 g m own)
      (turn : ∀ i g' m' own' v I oI s', i < n → Ext g g' → J i g' m' own' → P i v → St s₀ g' env oc (upd m' x v) (own' ++ (I, (· = oI)) :: fr) s' →
        wpAny (model prog w) A (execs body env) (fun f s'' => match f with
          | .next | .cont => ∃ g'' m'' own'', Ext g' g'' ∧ J (i + 1) g'' m'' own'' ∧ St s₀ g'' env oc m'' (own'' ++ (I, (· = oI)) :: fr) s''
          | .brk => Q .next s''
          | .ret r => Q (.ret r) s'') E s')
      (done : ∀ g' m' own' s', Ext g g' → J n g' m' own' → St s₀ g' env oc m' (own' ++ fr) s' → Q .next s') : ForGo prog w A env x body Q E xv s₁
/-- a for loop by an invariant -/
theorem for_mk {body : List Stmt} {iter : Expr} {Q : Flow → Shared → Prop}
    (h : wpAny (model prog w) A (eval iter env) (ForGo prog w A env x body Q E) E s)
    (hk : env.scope.kind = .function) (hs : ∀ x, foldedSetIterable iter env x = pure x) (hE : PassesOwn (model prog w) A env E) :
    wpAny (model prog w) A (exec (.For (.Name x px) iter body [] pos) env) Q E s := by
  refine wpAny_For (wpAny_mono h (fun xv s₁ h₁ => ?_) fun _ _ e => e) hs
  obtain ⟨s₀, g, oc, m, own, fr, n, P, src, J, X, hI, hsrc, hx, h0, turn, done⟩ := h₁
  obtain ⟨o, fp, S, hit, W, hS, hlive, hfr, hfp⟩ := hI.iter
  refine hit _ _ ?_
  have X1 : St s₀ g env oc m ((s₁.heap.objs.size, (· = o)) :: (own ++ fr)) { s₁ with heap := s₁.heap.push o } :=
    X.push_own (P := (· = o)) (fresh_ge (Nat.le_refl _)) (Keeps.push _ _) (Heap.get?_push_size _ hfr) rfl
  refine forLoop_st (R := fun r s' => match r with | .ok f => Q f s' | .error e => cameBackBy (model prog w) A env E e s') W hlive J (X1.perm_own List.perm_middle) hS ?_ h0 hk hx ?_ ?_
  · intro b hb hne; exact hsrc b (hfp b hb hne).1
  · intro i g' m' own' v oI s' hi hg hJ hP Y
    exact wpAny_passesOwn hE (wpAny_mono (turn i g' m' own' v _ oI s' hi hg hJ hP Y) (fun f s'' q => by cases f <;> exact q) fun _ _ e => e)
  · intro g' m' own' s' hg hJ Y
    exact done g' m' own' s' hg hJ Y
end
end Mine

/-! part F7 -/
open PySem PySem.W PySem.Calls PyProof.Rows
set_option Elab.async false
set_option linter.unusedVariables false
set_option maxRecDepth 100000
namespace Mine
section names
variable {prog : Program} {w : World} {A : Around} {E : Value → Shared → Prop} {s : Shared} {env : Env} {pos : Pos} {Q : Value → Shared → Prop}
theorem nm_b {n : Str} {v : Value} (e : ∀ P, nsIn (frag P) mainGlobals n = some none) (hv : bootBuiltins n = some v) (hn : n ≠ "__name__") (hd : (n == ("__debug__" : Str)) = false)
    (B : Base w s.heap) (h : Q v s) (hl : env.kindOf n = some .globalImplicit) (hg : env.globals = mainGlobals) (hb : env.builtins = builtinsNs) (hk : env.scope.kind = .function) :
    wpAny (model prog w) A (eval (.Name n pos) env) Q E s := name_b B (e _) hv h hl hg hb hk hn hd
theorem nm_g {n : Str} {v : Value} (e : ∀ P, nsIn (frag P) mainGlobals n = some (some v)) (hd : (n == ("__debug__" : Str)) = false)
    (B : Base w s.heap) (h : Q v s) (hl : env.kindOf n = some .globalImplicit) (hg : env.globals = mainGlobals) (hk : env.scope.kind = .function) :
    wpAny (model prog w) A (eval (.Name n pos) env) Q E s := name_g B (e _) h hl hg hk hd
end names
/-- the names that stand for one thing wherever they are read -/
inductive GL : Str → Value → Prop
  | range : GL "range" (.type "range")
  | len : GL "len" (.builtin "len")
  | sum : GL "sum" (.builtin "sum")
  | max : GL "max" (.builtin "max")
  | sorted : GL "sorted" (.builtin "sorted")
  | str : GL "str" (.type "str")
  | int : GL "int" (.type "int")
  | tuple : GL "tuple" (.type "tuple")
  | nt : GL "NT_OFFSET" (.int 256 196)
  | ist : GL "ISTERMINAL" (.ref 28)
  | isn : GL "ISNONTERMINAL" (.ref 35)
  | parse : GL "parse229" (.ref 79)
  | ws : GL "Whitespace" (.ref 141)
  | lead : GL "_law_lead" (.ref 150)
  | columns : GL "_law_columns" (.ref 157)
  | lesser : GL "_law_lesser" (.ref 162)
  | outline : GL "_law_outline" (.ref 167)
  | least : GL "_law_least" (.ref 174)
theorem gl_any {prog : Program} {w : World} {A : Around} {E : Value → Shared → Prop} {s : Shared} {env : Env} {pos : Pos} {Q : Value → Shared → Prop} {n : Str} {v : Value} (x : GL n v) (B : Base w s.heap) (h : Q v s)
    (hl : env.kindOf n = some .globalImplicit) (hg : env.globals = mainGlobals) (hb : env.builtins = builtinsNs) (hk : env.scope.kind = .function) : wpAny (model prog w) A (eval (.Name n pos) env) Q E s := by
  cases x
  case range => exact nm_b (fun _ => rfl) boot_range (by decide) (by decide) B h hl hg hb hk
  case len => exact nm_b (fun _ => rfl) bootS_len (by decide) (by decide) B h hl hg hb hk
  case sum => exact nm_b (fun _ => rfl) boot_sum (by decide) (by decide) B h hl hg hb hk
  case max => exact nm_b (fun _ => rfl) boot_max (by decide) (by decide) B h hl hg hb hk
  case sorted => exact nm_b (fun _ => rfl) boot_sorted (by decide) (by decide) B h hl hg hb hk
  case str => exact nm_b (fun _ => rfl) boot_str (by decide) (by decide) B h hl hg hb hk
  case int => exact nm_b (fun _ => rfl) boot_int (by decide) (by decide) B h hl hg hb hk
  case tuple => exact nm_b (fun _ => rfl) boot_tuple (by decide) (by decide) B h hl hg hb hk
  case nt => exact nm_g (fun _ => rfl) (by decide) B h hl hg hk
  case ist => exact nm_g (fun _ => rfl) (by decide) B h hl hg hk
  case isn => exact nm_g (fun _ => rfl) (by decide) B h hl hg hk
  case parse => exact nm_g (fun _ => rfl) (by decide) B h hl hg hk
  case ws => exact nm_g (fun _ => rfl) (by decide) B h hl hg hk
  case lead => exact nm_g (fun _ => rfl) (by decide) B h hl hg hk
  case columns => exact nm_g (fun _ => rfl) (by decide) B h hl hg hk
  case lesser => exact nm_g (fun _ => rfl) (by decide) B h hl hg hk
  case outline => exact nm_g (fun _ => rfl) (by decide) B h hl hg hk
  case least => exact nm_g (fun _ => rfl) (by decide) B h hl hg hk

structure Fn (P : Params) (a : Addr) where
  o : Obj
  fd : FuncData
  body : List Stmt
  ho : (frag P).lookup a = some o
  hdata : o.data = .func fd
  hb : fd.body = .stmts body
noncomputable def fnIst (P : Params) : Fn P 28 := ⟨_, _, _, rfl, rfl, rfl⟩
noncomputable def fnIsn (P : Params) : Fn P 35 := ⟨_, _, _, rfl, rfl, rfl⟩
noncomputable def fnParse (P : Params) : Fn P 79 := ⟨_, _, _, rfl, rfl, rfl⟩
noncomputable def fnInit (P : Params) : Fn P 96 := ⟨_, _, _, rfl, rfl, rfl⟩
noncomputable def fnLongest (P : Params) : Fn P 103 := ⟨_, _, _, rfl, rfl, rfl⟩
noncomputable def fnIndent (P : Params) : Fn P 110 := ⟨_, _, _, rfl, rfl, rfl⟩
noncomputable def fnEqual (P : Params) : Fn P 117 := ⟨_, _, _, rfl, rfl, rfl⟩
noncomputable def fnLess (P : Params) : Fn P 131 := ⟨_, _, _, rfl, rfl, rfl⟩
noncomputable def fnLead (P : Params) : Fn P 150 := ⟨_, _, _, rfl, rfl, rfl⟩
noncomputable def fnColumns (P : Params) : Fn P 157 := ⟨_, _, _, rfl, rfl, rfl⟩
noncomputable def fnLesser (P : Params) : Fn P 162 := ⟨_, _, _, rfl, rfl, rfl⟩
noncomputable def fnOutline (P : Params) : Fn P 167 := ⟨_, _, _, rfl, rfl, rfl⟩
noncomputable def fnLeast (P : Params) : Fn P 174 := ⟨_, _, _, rfl, rfl, rfl⟩
noncomputable def fnLaw (P : Params) : Fn P 179 := ⟨_, _, _, rfl, rfl, rfl⟩
noncomputable def bdIst : { b : List Stmt // ∀ P, (fnIst P).body = b } := ⟨_, fun _ => rfl⟩
noncomputable def bdIsn : { b : List Stmt // ∀ P, (fnIsn P).body = b } := ⟨_, fun _ => rfl⟩
noncomputable def bdParse : { b : List Stmt // ∀ P, (fnParse P).body = b } := ⟨_, fun _ => rfl⟩
noncomputable def bdInit : { b : List Stmt // ∀ P, (fnInit P).body = b } := ⟨_, fun _ => rfl⟩
noncomputable def bdLongest : { b : List Stmt // ∀ P, (fnLongest P).body = b } := ⟨_, fun _ => rfl⟩
noncomputable def bdIndent : { b : List Stmt // ∀ P, (fnIndent P).body = b } := ⟨_, fun _ => rfl⟩
noncomputable def bdEqual : { b : List Stmt // ∀ P, (fnEqual P).body = b } := ⟨_, fun _ => rfl⟩
noncomputable def bdLess : { b : List Stmt // ∀ P, (fnLess P).body = b } := ⟨_, fun _ => rfl⟩
noncomputable def bdLead : { b : List Stmt // ∀ P, (fnLead P).body = b } := ⟨_, fun _ => rfl⟩
noncomputable def bdColumns : { b : List Stmt // ∀ P, (fnColumns P).body = b } := ⟨_, fun _ => rfl⟩
noncomputable def bdLesser : { b : List Stmt // ∀ P, (fnLesser P).body = b } := ⟨_, fun _ => rfl⟩
noncomputable def bdOutline : { b : List Stmt // ∀ P, (fnOutline P).body = b } := ⟨_, fun _ => rfl⟩
noncomputable def bdLeast : { b : List Stmt // ∀ P, (fnLeast P).body = b } := ⟨_, fun _ => rfl⟩
noncomputable def bdLaw : { b : List Stmt // ∀ P, (fnLaw P).body = b } := ⟨_, fun _ => rfl⟩

/-- the frame's names of a def -/
def fEnv (w : World) {a : Addr} (f : ∀ P, Fn P a) (L : Addr) : Env := callEnvC (f w.params).fd L a

theorem enterFC {prog : Program} {w : World} {A : Around} {R' : Result → Shared → Prop} {s : Shared} {a : Addr} (f : ∀ P, Fn P a) {vals : List Value} (binds : List (Str × Value)) {d : Nat}
    (B : Base w s.heap) (R : Room A (d + 1)) (hcd : codeIn (frag w.params) (f w.params).fd.code (f w.params).fd.qualname = true)
    (hbind : bindArgs (f w.params).fd ⟨vals, []⟩ = pure binds) (hclo : (f w.params).fd.closure = [])
    (hkinds : (binds.all fun y => (f w.params).fd.scope.names.lookup y.1 == some .local || (f w.params).fd.scope.names.lookup y.1 == some .cell) = true)
    (hcells : ((f w.params).fd.scope.names.all fun y => y.2 != .cell || (f w.params).fd.scope.names.lookup y.1 == some .cell) = true)
    (hco : (f w.params).fd.scope.isCoroutine = false) (hgen : (f w.params).fd.scope.isGenerator = false) (hk : (f w.params).fd.scope.kind = .function)
    (h : ∀ L A' s₁, Room A' d → Base w s₁.heap → St s s.heap (fEnv w f L) (fEnv w f L).cells (mOf binds fun _ => none) [] s₁ →
      wpAny (model prog w) A' (execs (f w.params).body (fEnv w f L)) (fun f s' => R' (.ok (.ret (match f with | .ret v => v | _ => .none))) s') (fun _ _ => False) s₁) :
    codeAny (model prog w) A (.call (.ref a) ⟨vals, []⟩) R' s :=
  enterC B R (f w.params).ho (f w.params).hdata hcd (f w.params).hb hbind hclo hkinds hcells (fun s₁ X => h _ _ s₁ (R.deeper _) (B.keeps X.keep) X) hco hgen hk

theorem enterF {prog : Program} {w : World} {A : Around} {E : Value → Shared → Prop} {s : Shared} {a : Addr} (f : ∀ P, Fn P a) {vals : List Value} (binds : List (Str × Value)) {Q : Value → Shared → Prop} {d : Nat}
    (B : Base w s.heap) (R : Room A (d + 1)) (hcd : codeIn (frag w.params) (f w.params).fd.code (f w.params).fd.qualname = true)
    (hbind : bindArgs (f w.params).fd ⟨vals, []⟩ = pure binds) (hclo : (f w.params).fd.closure = [])
    (hkinds : (binds.all fun y => (f w.params).fd.scope.names.lookup y.1 == some .local || (f w.params).fd.scope.names.lookup y.1 == some .cell) = true)
    (hcells : ((f w.params).fd.scope.names.all fun y => y.2 != .cell || (f w.params).fd.scope.names.lookup y.1 == some .cell) = true)
    (hco : (f w.params).fd.scope.isCoroutine = false) (hgen : (f w.params).fd.scope.isGenerator = false) (hk : (f w.params).fd.scope.kind = .function)
    (h : ∀ L A' s₁, Room A' d → Base w s₁.heap → St s s.heap (fEnv w f L) (fEnv w f L).cells (mOf binds fun _ => none) [] s₁ →
      wpAny (model prog w) A' (execs (f w.params).body (fEnv w f L)) (fun f s' => Q (match f with | .ret v => v | _ => .none) s') (fun _ _ => False) s₁) :
    wpAny (model prog w) A (call (.ref a) vals) Q E s :=
  wpAny_call (enterFC f binds B R hcd hbind hclo hkinds hcells hco hgen hk h)

theorem IntsAre.get' {vs : List Value} {ns : List Int} (h : IntsAre vs ns) : ∀ {i : Nat} {n : Int}, ns[i]? = some n → ∃ t, vs[i]? = some (.int n t) := by
  induction h with
  | nil => intro i v e; simp at e
  | cons n t _ ih =>
    intro i v e
    cases i with
    | zero => simp at e; subst e; exact ⟨_, rfl⟩
    | succ i => exact ih (by simpa using e)
theorem IntsAre.snoc {vs : List Value} {ns : List Int} (h : IntsAre vs ns) (n : Int) (t : Tok) : IntsAre (vs ++ [.int n t]) (ns ++ [n]) := by
  induction h with
  | nil => exact .cons n t .nil
  | cons n' t' _ ih => exact .cons n' t' ih

section ops
variable {prog : Program} {w : World} {A : Around} {E : Value → Shared → Prop} {s : Shared} {Q : Value → Shared → Prop} {env : Env} {pos : Pos}
/-- an item of a list, from the front -/
theorem item_l {value slice : Expr} {l : Addr} {vs : List Value} {k : Int} {u : Tok} {v : Value} (hl : s.heap.IsList l vs.toArray) (h0 : 0 ≤ k) (hhi : k < 2 ^ 63) (hx : vs[k.toNat]? = some v) (h : Q v s)
    (hs : subscripted slice false (.ref l) (.int k u) = operate [.ref l, .int k u] (getItem (.ref l) (.int k u))) :
    wpAny (model prog w) A (subscriptTail value slice (.ref l) (.int k u)) Q E s :=
  tail_any hl.typeIs slot_list_getitem.lookup (wpAny_getItem_list hl h0 hhi (by simpa using hx) h) hs
theorem item_neg {value slice : Expr} {l : Addr} {vs : List Value} {k : Int} {u : Tok} {v : Value} (hl : s.heap.IsList l vs.toArray) (h0 : k < 0) (h1 : -(vs.length : Int) ≤ k) (hfit : -(2 ^ 63) ≤ k) (hx : vs[(k + vs.length).toNat]? = some v) (h : Q v s)
    (hs : subscripted slice false (.ref l) (.int k u) = operate [.ref l, .int k u] (getItem (.ref l) (.int k u))) :
    wpAny (model prog w) A (subscriptTail value slice (.ref l) (.int k u)) Q E s :=
  tail_any hl.typeIs slot_list_getitem.lookup (wpAny_getItem_list_neg hl h0 (by simpa using h1) hfit (by simpa using hx) h) hs
theorem list_disp {elts : List Expr}
    (h : wpAny (model prog w) A (spliced (backTo pos (starEach elts env))) (fun vs s₁ => vs.length ≤ sizeLine ∧ ∀ l s₂, Keeps s₁ s₂ → s₁.heap.get? l = none → s₂.heap.PlainList l vs.toArray → Q (.ref l) s₂) E s) : wpAny (model prog w) A (eval (.List elts pos) env) Q E s :=
  wpAny_List (wpAny_mono h (fun vs s₁ q => ⟨q.1, q.2 _ _ (Keeps.push _ _) (fresh_ge (Nat.le_refl _)) ⟨0, Heap.get?_push_size _ rfl⟩⟩) fun _ _ e => e)
theorem tuple_disp {elts : List Expr} {k : Nat}
    (h : wpAny (model prog w) A (spliced (backTo pos (starEach elts env))) (fun vs s₁ => vs.length ≤ sizeLine ∧ ∀ l s₂, Keeps s₁ s₂ → s₁.heap.get? l = none → s₂.heap.IsTuple l vs.toArray → Q (.ref l) s₂) E s) : wpAny (model prog w) A (eval (.Tuple elts k pos) env) Q E s :=
  wpAny_Tuple (wpAny_mono h (fun vs s₁ q => ⟨q.1, q.2 _ _ (Keeps.push _ _) (fresh_ge (Nat.le_refl _)) ⟨_, Heap.get?_push_size _ rfl, rfl, 0, rfl⟩⟩) fun _ _ e => e)
theorem call_own {a : Addr} (f : ∀ P, Fn P a) {e : Expr} {rest : List Expr} (B : Base w s.heap)
    (h : wpAny (model prog w) A (spliced (backTo pos (starEach (e :: rest) env))) (fun vs s₁ => Base w s₁.heap ∧ wpAny (model prog w) A (call (.ref a) vs) Q E s₁) E s)
    (he : starEach (e :: rest) env = (false, eval e env) :: starEach rest env) :
    wpAny (model prog w) A (callWith pos (.ref a) [] (backTo pos (starEach (e :: rest) env)) []) Q E s :=
  callWith_defK (B.K _ _ (f w.params).ho) (f w.params).hdata (wpAny_mono h (fun vs s₁ q => ⟨q.1.K _ _ (f w.params).ho, q.2⟩) fun _ _ e => e) he
theorem range1 {n : Int} {t : Tok} (h : ∀ r s', Keeps s s' → IsRange s'.heap r 0 n 1 s.toks t (s.toks + 1) → Q (.ref r) s') : wpAny (model prog w) A (call (.type "range") [.int n t]) Q E s :=
  call_range_1 (h _ _ ⟨_, _, rfl, fun _ _ e => Heap.get?_push_of_some _ e⟩ (Heap.get?_push_size _ rfl))
theorem range2 {a b : Int} {t u : Tok} (h : ∀ r s', Keeps s s' → IsRange s'.heap r a b 1 t u s.toks → Q (.ref r) s') : wpAny (model prog w) A (call (.type "range") [.int a t, .int b u]) Q E s :=
  call_range_2 (h _ _ ⟨_, _, rfl, fun _ _ e => Heap.get?_push_of_some _ e⟩ (Heap.get?_push_size _ rfl))
theorem range3 {a b c : Int} {t u v : Tok} (hc : c ≠ 0) (hp : Builtin.divisionGoesByPylong (b - a) c = false) (h : ∀ r s', Keeps s s' → IsRange s'.heap r a b c t u v → Q (.ref r) s') : wpAny (model prog w) A (call (.type "range") [.int a t, .int b u, .int c v]) Q E s :=
  call_range_3 hc (h _ _ ⟨_, _, rfl, fun _ _ e => Heap.get?_push_of_some _ e⟩ (Heap.get?_push_size _ rfl)) (hp := .inl hp)
end ops
theorem Keeps.tk {a b : Shared} {t : Nat} (k : Keeps a b) : Keeps a { b with toks := t } := Keeps.trans k (Keeps.tok b t)
end Mine
namespace Mine
/-- a captured variable -/
def Cap (h : Heap) (cells : List (Str × Addr)) (n : Str) (v : Value) : Prop := ∃ c, cells.lookup n = some c ∧ h.IsCell c (some v)
theorem Cap.keeps {h h' : Heap} {cells : List (Str × Addr)} {n : Str} {v : Value} (x : Cap h cells n v) (k : Ext h h') : Cap h' cells n v := let ⟨c, a, b⟩ := x; ⟨c, a, b.keeps k⟩
section
variable {prog : Program} {w : World} {A : Around} {E : Value → Shared → Prop} {s₀ s s' : Shared} {g : Heap} {env : Env} {oc : List (Str × Addr)} {m : Str → Option Value} {own : Own} {n : Str} {v : Value} {pos : Pos}
theorem St.cap (X : St s₀ g env oc m own s) {c : Addr} (hv : m n = some v) (e : oc.lookup n = some c) (e' : env.cells.lookup n = some c) : Cap s.heap env.cells n v := ⟨c, e', hv ▸ X.cell n c e⟩
theorem name_cap {h₀ : Heap} {cells₀ : List (Str × Addr)} {Q : Value → Shared → Prop} (hc : Cap h₀ cells₀ n v) (hx : Ext h₀ s.heap) (h : Q v s) (he : env.cells.lookup n = cells₀.lookup n)
    (hl : env.kindOf n = some .cell ∨ env.kindOf n = some .free) (hk : env.scope.kind = .function) (hd : (n == ("__debug__" : Str)) = false) (hcd : (n == ("__classdict__" : Str)) = false) :
    wpAny (model prog w) A (eval (.Name n pos) env) Q E s := by
  obtain ⟨c, a, b⟩ := hc
  exact name_f (b.keeps hx) h hl (he.trans a) hk hd hcd
theorem name_l' {Q : Value → Shared → Prop} (x : St s₀ g env oc m own s) (hs : s'.heap = s.heap) (hv : m n = some v) (h : Q v s') (hl : env.kindOf n = some .local) (hk : env.scope.kind = .function)
    (hd : (n == ("__debug__" : Str)) = false) : wpAny (model prog w) A (eval (.Name n pos) env) Q E s' := by
  obtain ⟨ml, a, b⟩ := x.ns
  exact wpAny_Name (wpAny_loadName_local hk hl (hs ▸ a) ((b n hl).trans hv) h) hd
theorem name_c' {c : Addr} {Q : Value → Shared → Prop} (x : St s₀ g env oc m own s) (hs : s'.heap = s.heap) (hv : m n = some v) (h : Q v s') (hl : env.kindOf n = some .cell) (ho : oc.lookup n = some c) (he : env.cells.lookup n = some c) (hk : env.scope.kind = .function)
    (hd : (n == ("__debug__" : Str)) = false) : wpAny (model prog w) A (eval (.Name n pos) env) Q E s' := by
  have := x.cell n c ho
  rw [hv] at this
  exact wpAny_Name (wpAny_loadName_cell hk hl he (hs ▸ this) h) hd
end
end Mine
namespace Mine
theorem get_lk {α : Type} {l : List α} {i : Nat} {d : α} (h : i < l.length) : l[i]? = some (l.getD i d) := by simp [List.getD, List.getElem?_eq_getElem h]
end Mine
namespace Mine
section
variable {prog : Program} {w : World} {A : Around} {s : Shared} {E : Value → Shared → Prop}
theorem cmp_nil {D l : Addr} {ys : List Value} {Q : Value → Shared → Prop} (hD : s.heap.IsList D ys.toArray) (hl : s.heap.IsList l ([] : List Value).toArray) (hu : A.units < cLine) (h : Q (.bool (decide (ys = []))) s) :
    wpAny (model prog w) A (compareOp .Eq (.ref D) (.ref l)) Q E s := by
  cases ys with
  | nil => exact PySem.SeqAt.eq_listAt (e := fun _ => true) hD hl rfl hu (fun j h1 => by simp at h1) (by simpa using h)
  | cons y r => exact PySem.SeqAt.eq_list_lengthsAt hD hl (by simp) hu (by simpa using h)
end
end Mine
namespace Mine
section
variable {prog : Program} {w : World} {A : Around} {E : Value → Shared → Prop} {s₀ s s' : Shared} {g : Heap} {env : Env} {oc : List (Str × Addr)} {m : Str → Option Value} {own pre post : Own} {n : Str} {v : Value} {pos : Pos}
theorem hoc_of {oc : List (Str × Addr)} {n : Str} (h : oc.lookup n = none) : ∀ c, oc.lookup n ≠ some c := fun c e => by rw [h] at e; cases e
theorem put_l {Q : Unit → Shared → Prop} (x : St s₀ g env oc m own s) (k : Keeps s s') (h : ∀ s'', St s₀ g env oc (upd m n v) own s'' → Q () s'') (hl : env.kindOf n = some .local) (hk : env.scope.kind = .function)
    (hoc : oc.lookup n = none) : wpAny (model prog w) A (storeName env n v) Q E s' := store_l (x.keeps k) h hl hk (hoc_of hoc)
theorem put_c {c : Addr} {Q : Unit → Shared → Prop} (x : St s₀ g env oc m own s) (k : Keeps s s') (h : ∀ s'', St s₀ g env oc (upd m n v) own s'' → Q () s'') (hl : env.kindOf n = some .cell) (hk : env.scope.kind = .function)
    (hoc : oc.lookup n = some c) (he : env.cells.lookup n = some c) : wpAny (model prog w) A (storeName env n v) Q E s' := store_c (x.keeps k) h hl hoc he hk
/-- append to a list of one's own -/
theorem append_own {l : Addr} {ys : List Value} {y : Value} {Q : Value → Shared → Prop} (x : St s₀ g env oc m (pre ++ (l, listO ys) :: post) s) (k : Keeps s s') (h : ∀ s'', St s₀ g env oc m (pre ++ (l, listO (ys ++ [y])) :: post) s'' → Q .none s'') (hn : ys.length ≤ sizeLine) :
    wpAny (model prog w) A (call (.builtin "list.append") [.ref l, y]) Q E s' := by
  have X := x.keeps k
  obtain ⟨o, ho, hp⟩ := X.mine (l, listO ys) (List.mem_append_right _ (.head _))
  refine wpAny_list_append_plain (plain_of ho hp) (fun h5 hl5 hs5 => ?_) (by rw [List.size_toArray]; exact hn)
  obtain ⟨n5, ho5⟩ := hl5
  exact h _ (St.set_own (tk := s'.toks) X (P' := listO (ys ++ [y])) (fun b o hb e => hs5.extBut b o hb e) ho5 ⟨n5, by simp⟩)
theorem getm_append {l : Addr} {ys : Array Value} {pl : Sem Bool} {Q : Value × List Value → Shared → Prop} (hl : s.heap.PlainList l ys) (h : Q (.builtin "list.append", [.ref l]) s) : wpAny (model prog w) A (getMethod (.ref l) "append" pl) Q E s := by
  obtain ⟨n, e⟩ := hl
  exact getMethod_list_append e rfl rfl h
theorem St.own_list {l : Addr} {ys : List Value} (x : St s₀ g env oc m own s) (k : Keeps s s') (hm : (l, listO ys) ∈ own) : s'.heap.PlainList l ys.toArray := by
  obtain ⟨o, ho, hp⟩ := (x.keeps k).mine _ hm
  exact plain_of ho hp
end
end Mine
namespace Mine
theorem mod_nat {n : Nat} (v : Int) (h : 0 < n) : ∃ k : Nat, k < n ∧ v % (n : Int) = k := by
  obtain ⟨k, hk⟩ := Int.eq_ofNat_of_zero_le (Int.emod_nonneg v (b := (n : Int)) (Int.ne_of_gt (Int.ofNat_lt.mpr h)))
  exact ⟨k, Int.ofNat_lt.mp (hk ▸ Int.emod_lt_of_pos v (Int.ofNat_lt.mpr h)), hk⟩
theorem mod5_n (v : Int) : 1 + v % 5 = ((1 + v % 5).toNat : Int) ∧ (1 + v % 5).toNat < 6 ∧ (1 + v % 5).toNat ≠ 0 := by
  obtain ⟨k, h5, hk⟩ := mod_nat (n := 5) v (by decide)
  rw [show v % 5 = (k : Int) from hk, show 1 + (k : Int) = ((1 + k : Nat) : Int) from rfl, Int.toNat_natCast]
  exact ⟨rfl, Nat.add_lt_add_left h5 1, by rw [Nat.add_comm]; exact Nat.succ_ne_zero k⟩
theorem lt6 {n : Nat} (h : n < 6) : n = 0 ∨ n = 1 ∨ n = 2 ∨ n = 3 ∨ n = 4 ∨ n = 5 := (by decide : ∀ n < 6, n = 0 ∨ n = 1 ∨ n = 2 ∨ n = 3 ∨ n = 4 ∨ n = 5) n h
theorem mod4 (v : Int) : v % 4 = 0 ∨ v % 4 = 1 ∨ v % 4 = 2 ∨ v % 4 = 3 := by
  obtain ⟨k, h5, hk⟩ := mod_nat (n := 4) v (by decide)
  rw [show v % 4 = (k : Int) from hk]
  exact (by decide : ∀ k : Nat, k < 4 → (k : Int) = 0 ∨ (k : Int) = 1 ∨ (k : Int) = 2 ∨ (k : Int) = 3) k h5
theorem longest_int' {a b : Nat} : max ((a : Int) - 1) b = ((max (a - 1) b : Nat) : Int) := by
  cases a with
  | zero => rw [Nat.zero_sub, Nat.max_eq_right (Nat.zero_le b)]; exact Int.max_eq_right (Int.le_trans (by decide) (Int.natCast_nonneg b))
  | succ n =>
    rw [Nat.add_sub_cancel, show ((n + 1 : Nat) : Int) - 1 = (n : Int) from Int.add_sub_cancel (n : Int) 1]
    rcases Nat.le_total n b with h | h
    · rw [Nat.max_eq_right h]; exact Int.max_eq_right (Int.ofNat_le.mpr h)
    · rw [Nat.max_eq_left h]; exact Int.max_eq_left (Int.ofNat_le.mpr h)
theorem min_le_l {a i n c : Nat} (h : a = min i n) (hc : i ≤ c) : a ≤ c := h ▸ Nat.le_trans (Nat.min_le_left i n) hc
theorem max_of {a b c : Nat} (h : a ≤ c) (k : b ≤ c) : max (a - 1) b ≤ c := Nat.max_le.mpr ⟨Nat.le_trans (Nat.sub_le a 1) h, k⟩
theorem toNat_sub (a b : Nat) : a - b = ((a : Int) - b).toNat := (Int.toNat_sub a b).symm
end Mine

open PySem PySem.W PySem.Calls PyProof.Rows
set_option Elab.async false
set_option linter.unusedVariables false
set_option maxRecDepth 100000
namespace Mine
/-! part F8 -/
theorem sz_of {n : Nat} (h : n ≤ 1000) : n ≤ sizeLine := by rw [sizeLine_eq]; exact Nat.le_trans h (by decide)
theorem sz_arr {l : List Value} (h : l.length ≤ 1000) : l.toArray.size ≤ sizeLine := by rw [List.size_toArray]; exact sz_of h
theorem item_n {prog : Program} {w : World} {A : Around} {E : Value → Shared → Prop} {s : Shared} {Q : Value → Shared → Prop} {value slice : Expr} {l : Addr} {vs : List Value} {k : Nat} {u : Tok} {v : Value} (hl : s.heap.IsList l vs.toArray) (hk : k < 1000) (hx : vs[k]? = some v) (h : Q v s)
    (hs : subscripted slice false (.ref l) (.int (k : Int) u) = operate [.ref l, .int (k : Int) u] (getItem (.ref l) (.int (k : Int) u))) :
    wpAny (model prog w) A (subscriptTail value slice (.ref l) (.int (k : Int) u)) Q E s :=
  item_l hl (Int.natCast_nonneg k) (by omega) (by rw [Int.toNat_natCast]; exact hx) h hs
/-- what is asked at the end, behind a letter -/
theorem hideQ {α : Type} {M : Model} {A : Around} {m : Sem α} {Q : α → Shared → Prop} {E : Value → Shared → Prop} {s : Shared} (h : ∀ Q' : α → Shared → Prop, (∀ x s, Q x s → Q' x s) → wpAny M A m Q' E s) : wpAny M A m Q E s := h Q fun _ _ h => h
section
variable {prog : Program} {w : World} {A : Around} {E : Value → Shared → Prop} {s₀ s s' : Shared} {g : Heap} {env : Env} {oc : List (Str × Addr)} {m : Str → Option Value} {own pre post : Own} {x y : Str} {a b : Value} {px py pos : Pos}

theorem keeps_of_ext {s : Shared} {h' : Heap} (he : Heap.ExtBut s.heap.objs.size s.heap h') : Keeps s { s with heap := h' } :=
  ⟨h', s.toks, rfl, fun b o e => he b o (Nat.ne_of_lt (Heap.lt_size e)) e⟩

/-- two names for a pair -/
theorem pair_st {t : Addr} {k : Nat} {Q : Unit → Shared → Prop} (hh : A.handled = none) (X : St s₀ g env oc m own s) (kp : Keeps s s') (ht : s'.heap.IsTuple t [a, b].toArray)
    (h : ∀ s'', St s₀ g env oc (upd (upd m x a) y b) own s'' → Q () s'') (hx : env.kindOf x = some .local) (hy : env.kindOf y = some .local) (hk : env.scope.kind = .function) (hox : oc.lookup x = none) (hoy : oc.lookup y = none) :
    wpAny (model prog w) A (assign (.Tuple [.Name x px, .Name y py] k pos) env (.ref t)) Q E s' := by
  refine wpAny_assign_Tuple hh ht rfl rfl fun h' he => ?_
  have X1 := X.keeps (Keeps.trans kp (keeps_of_ext he))
  show wpAny (model prog w) A (assignInOrder [assign (.Name x px) env, assign (.Name y py) env] [a, b]) Q E _
  refine wpAny_assignInOrder_more (assign_Name (store_l X1 (fun s1 Y1 => ?_) hx hk (hoc_of hox)))
  refine wpAny_assignInOrder_more (assign_Name (store_l Y1 (fun s2 Y2 => ?_) hy hk (hoc_of hoy)))
  exact wpAny_assignInOrder_none (h _ Y2)
/-- the same, the later name first -/
theorem pair_swap {v : Expr} {k : Nat} {Q : Flow → Shared → Prop} {tpos : Pos}
    (h : wpAny (model prog w) A (eval v env) (fun v s' => ∃ t a b s₀ g oc m own s, v = .ref t ∧ A.handled = none ∧ St s₀ g env oc m own s ∧ Keeps s s' ∧ s'.heap.IsTuple t [a, b].toArray ∧
      (∀ s'', St s₀ g env oc (upd (upd m y b) x a) own s'' → Q .next s'') ∧ oc.lookup x = none ∧ oc.lookup y = none) E s) (hx : env.kindOf x = some .local) (hy : env.kindOf y = some .local) (hk : env.scope.kind = .function)
    (hs : swapsWithSole [.Tuple [.Name x px, .Name y py] k tpos] v pos.line env = pure false)
    (hw : swappedStores [.Tuple [.Name x px, .Name y py] k tpos] v env = pure (some [x, y])) :
    wpAny (model prog w) A (exec (.Assign [.Tuple [.Name x px, .Name y py] k tpos] v pos) env) Q E s := by
  refine Assign_Tuple_swapped (names := [x, y]) (wpAny_mono h (fun v s' q => ?_) fun _ _ e => e) hs hw
  obtain ⟨t, a, b, s₀, g, oc, m, own, s, rfl, hh, X, kp, ht, h, hox, hoy⟩ := q
  have key := @wpAny_unpackItems_tuple prog w A E s' t [a, b].toArray (fun items s₂ => wpAny (model prog w) A (assignInOrder ([x, y].reverse.map fun n => bindName env n) items.reverse) (fun _ => Q .next) E s₂) hh ht
  have e2 : [a, b].toArray.size = [x, y].length := rfl
  rw [e2] at key
  refine key fun h' he => ?_
  have X1 := X.keeps (Keeps.trans kp (keeps_of_ext he))
  refine @wpAny_assignInOrder_more _ _ _ _ (fun v => bindName env y v) [fun v => bindName env x v] b [a] _ (bindName_ (store_l X1 (fun s1 Y1 => ?_) hy hk (hoc_of hoy)))
  refine @wpAny_assignInOrder_more _ _ _ _ (fun v => bindName env x v) [] a [] _ (bindName_ (store_l Y1 (fun s2 Y2 => ?_) hx hk (hoc_of hox)))
  exact wpAny_assignInOrder_none (h _ Y2)
end

/-- the dict of a made object: its keys are strings, a look finds f -/
def attrO (f : Str → Option Value) (k : Nat) : Obj → Prop := fun o => ∃ es n, o = dictOf es n ∧ es.length ≤ k ∧ (∀ e ∈ es, ∃ n t, e.key = .str n t) ∧ ∀ nm, getL nm es = some (f nm)
theorem getL_strs {es : List DictEntry} (h : ∀ e ∈ es, ∃ n t, e.key = .str n t) (nm : Str) : getL nm es = some ((es.find? (·.key.isStr nm)).map (·.val)) := by
  unfold getL
  cases e : es.find? (·.key.isStr nm) with
  | some en => rfl
  | none =>
    have : es.any (·.refKey) = false := by
      rw [List.any_eq_false]
      intro en hen
      obtain ⟨n, t, q⟩ := h en hen
      simp [DictEntry.refKey, q]
    simp [this]
theorem putL_strs {es : List DictEntry} (h : ∀ e ∈ es, ∃ n t, e.key = .str n t) (name : Str) (hs : Int) (t : Tok) (v : Value) : ∀ e ∈ putL name hs (.str name t) v es, ∃ n t, e.key = .str n t := by
  induction es with
  | nil => intro e he; rw [List.mem_singleton.mp he]; exact ⟨_, _, rfl⟩
  | cons en r ih =>
    intro e he
    unfold putL at he
    split at he
    · rcases List.mem_cons.mp he with rfl | he
      · exact h en (.head _)
      · exact h e (.tail _ he)
    · rcases List.mem_cons.mp he with rfl | he
      · exact h e (.head _)
      · exact ih (fun e he => h e (.tail _ he)) e he
theorem putL_len (es : List DictEntry) (name : Str) (hs : Int) (k v : Value) : (putL name hs k v es).length ≤ es.length + 1 := by
  induction es with
  | nil => exact Nat.le_refl _
  | cons en r ih => unfold putL; split; exact Nat.le_succ _; simpa using ih
theorem find_putL {es : List DictEntry} (h : ∀ e ∈ es, ∃ n t, e.key = .str n t) (name : Str) (hs : Int) (t : Tok) (v : Value) (nm : Str) :
    ((putL name hs (.str name t) v es).find? (·.key.isStr nm)).map (·.val) = if nm = name then some v else (es.find? (·.key.isStr nm)).map (·.val) := by
  induction es with
  | nil =>
    show (List.find? _ [_]).map _ = _
    by_cases q : nm = name
    · subst q; simp [Value.isStr]
    · rw [if_neg q]; have : (name == nm) = false := by simpa using fun z => q z.symm
      simp [Value.isStr, this]
  | cons en r ih =>
    obtain ⟨n1, t1, q1⟩ := h en (.head _)
    have ih := ih fun e he => h e (.tail _ he)
    unfold putL
    rw [q1]
    by_cases q : n1 = name
    · subst q
      rw [if_pos (by simp [Value.isStr])]
      by_cases q2 : nm = n1
      · subst q2; simp [Value.isStr]
      · have : (n1 == nm) = false := by simpa using fun z => q2 z.symm
        rw [if_neg q2]; simp [Value.isStr, this, q1]
    · rw [if_neg (by simpa [Value.isStr] using q)]
      by_cases q2 : nm = n1
      · subst q2; rw [if_neg q]; simp [Value.isStr, q1]
      · have : (n1 == nm) = false := by simpa using fun z => q2 z.symm
        simp only [List.find?_cons, q1, Value.isStr, this]
        exact ih

/-- an object of the class: what a look finds -/
structure Inst (h : Heap) (x : Addr) (f : Str → Option Value) : Prop where
  at_ : ∃ dx od k, h.get? x = some (instObj 141 dx) ∧ h.get? dx = some od ∧ attrO f k od
theorem Inst.keeps {h h' : Heap} {x : Addr} {f : Str → Option Value} (i : Inst h x f) (k : Ext h h') : Inst h' x f := let ⟨dx, od, n, a, b, c⟩ := i; ⟨dx, od, n, k _ _ a, k _ _ b, c⟩

section
variable {prog : Program} {w : World} {A : Around} {E : Value → Shared → Prop} {s₀ s s' : Shared} {g : Heap} {env : Env} {oc : List (Str × Addr)} {m : Str → Option Value} {own pre post : Own} {x dx : Addr} {f : Str → Option Value} {k : Nat} {v : Value} {name : Str}

/-- every object but the frame's dict and one -/
def allBut (h : Heap) (L d : Addr) : List (Addr × Obj) := (List.range h.objs.size).filterMap fun b => if b = L ∨ b = d then none else (h.get? b).map fun o => (b, o)
theorem mem_allBut {h : Heap} {L d b : Addr} {o : Obj} : (b, o) ∈ allBut h L d ↔ h.get? b = some o ∧ b ≠ L ∧ b ≠ d := by
  unfold allBut
  rw [List.mem_filterMap]
  constructor
  · rintro ⟨c, _, e⟩
    split at e
    · cases e
    · rename_i q
      obtain ⟨o', e', q'⟩ := Option.map_eq_some_iff.mp e
      cases q'
      exact ⟨e', fun z => q (.inl z), fun z => q (.inr z)⟩
  · rintro ⟨e, h1, h2⟩
    exact ⟨b, List.mem_range.mpr (Heap.lt_size e), by rw [if_neg (fun z => z.elim h1 h2), e]; rfl⟩

/-- storing an attribute of an object of one's own -/
theorem setattr_own {Q : Unit → Shared → Prop} (X : St s₀ g env oc m (pre ++ (dx, attrO f k) :: post) s) (B : Base w s.heap) (hx : s.heap.get? x = some (instObj 141 dx))
    (ht : takerIn (frag w.params) 141 name = some none) (hk : k ≤ 100)
    (h : ∀ s'', St s₀ g env oc m (pre ++ (dx, attrO (upd f name v) (k + 1)) :: post) s'' → Q () s'') :
    wpAny (model prog w) A (setAttr (.ref x) name v) Q E s := by
  have hm : (dx, attrO f k) ∈ pre ++ (dx, attrO f k) :: post := List.mem_append_right _ (.head _)
  obtain ⟨od, ho, es, n, rfl, hlen, hstr, hget⟩ := X.mine _ hm
  dsimp only at ho
  have hne := (X.gO _ hm).2.1
  have I : InstAt s.heap x (instObj 141 dx) 141 (some (dictOf es n)) := ⟨hx, rfl, rfl, ho⟩
  obtain ⟨ml, hns, hml⟩ := X.ns
  refine set_plain B.K I rfl ?_
  have F : Fr { s.heap with objs := #[] } env.locals s.heap ml := ⟨hns, fun b o e => absurd (Heap.lt_size e) (Nat.not_lt_zero _), Nat.zero_le _⟩
  have N : News { s.heap with objs := #[] } env.locals s.heap ([] ++ (dx, dictOf es n) :: allBut s.heap env.locals dx) := by
    intro p hp
    have none0 : { s.heap with objs := #[] }.get? p.1 = none := by
      cases e : { s.heap with objs := #[] }.get? p.1 with
      | none => rfl
      | some o => exact absurd (Heap.lt_size e) (Nat.not_lt_zero _)
    rcases List.mem_cons.mp hp with rfl | hp
    · exact ⟨ho, hne, none0⟩
    · obtain ⟨a1, a2, a3⟩ := mem_allBut.mp (show (p.1, p.2) ∈ _ from hp)
      exact ⟨a1, a2, none0⟩
  refine osa_dict (s := { s with toks := s.toks + 1 }) F N B.K I rfl rfl ht rfl (by rw [lookIn_dict, hget]; rfl) (fun _ h => nomatch h) (fun p hp => (mem_allBut.mp (show (p.1, p.2) ∈ _ from hp)).2.2) (putName_dict _ _ _ _ _ _) rfl
    (by have := putL_len es name (PyData.keyHash w.params name) (.str name (s.toks + 1)) v; exact Nat.le_trans this (by omega)) ?_
  intro h' F' N'
  dsimp only
  have keep : ∀ b o, b ≠ env.locals → b ≠ dx → s.heap.get? b = some o → h'.get? b = some o := fun b o h1 h2 e => (N' (b, o) (.tail _ (mem_allBut.mpr ⟨e, h1, h2⟩))).1
  refine h _ ?_
  have ha := (N' (dx, _) (.head _)).1
  have hap := List.pairwise_append.mp X.aO
  have other : ∀ p ∈ pre ++ post, p.1 ≠ dx := by
    intro p hp
    rcases List.mem_append.mp hp with q | q
    · exact hap.2.2 p q (dx, _) (.head _)
    · exact ((List.pairwise_cons.mp hap.2.1).1 p q).symm
  have sub : ∀ p ∈ pre ++ (dx, attrO (upd f name v) (k + 1)) :: post, p = (dx, attrO (upd f name v) (k + 1)) ∨ p ∈ pre ++ post := by
    intro p hp
    rcases List.mem_append.mp hp with q | q
    · exact .inr (List.mem_append_left _ q)
    · rcases List.mem_cons.mp q with q | q
      · exact .inl q
      · exact .inr (List.mem_append_right _ q)
  have up : ∀ p ∈ pre ++ post, p ∈ pre ++ (dx, attrO f k) :: post := fun p hp => by
    rcases List.mem_append.mp hp with q | q
    · exact List.mem_append_left _ q
    · exact List.mem_append_right _ (.tail _ q)
  exact {
    same := by obtain ⟨h₁, tk, rfl⟩ := X.same; exact ⟨h', _, rfl⟩
    keep := fun b o e => keep b o (by rintro rfl; rw [X.gL] at e; cases e) (by rintro rfl; have := (X.gO _ hm).1; rw [this] at e; cases e) (X.keep b o e)
    ns := ⟨ml, F'.ns, hml⟩
    cell := fun y c e => by
      obtain ⟨o, e1, e2⟩ := X.cell y c e
      exact ⟨o, keep c o (X.gC y c e).2 (fun z => (X.gO _ hm).2.2 y c e z.symm) e1, e2⟩
    mine := fun p hp => by
      rcases sub p hp with rfl | hp
      · exact ⟨_, ha, _, _, rfl, Nat.le_trans (putL_len _ _ _ _ _) (by omega), putL_strs hstr _ _ _ _, fun nm => by
          rw [getL_strs (putL_strs hstr _ _ _ _), find_putL hstr]
          have := hget nm
          rw [getL_strs hstr] at this
          unfold upd
          split
          · rfl
          · exact this⟩
      · obtain ⟨o, e1, e2⟩ := X.mine p (up p hp)
        exact ⟨o, keep p.1 o (X.gO p (up p hp)).2.1 (other p hp) e1, e2⟩
    gL := X.gL
    gC := X.gC
    aC := X.aC
    gO := fun p hp => by
      rcases sub p hp with rfl | hp
      · exact X.gO (dx, attrO f k) hm
      · exact X.gO p (up p hp)
    aO := by
      refine List.pairwise_append.mpr ⟨hap.1, List.pairwise_cons.mpr ⟨fun p hp => (List.pairwise_cons.mp hap.2.1).1 p hp, (List.pairwise_cons.mp hap.2.1).2⟩, ?_⟩
      intro p hp q hq
      rcases List.mem_cons.mp hq with rfl | hq
      · exact hap.2.2 p hp (dx, attrO f k) (.head _)
      · exact hap.2.2 p hp q (.tail _ hq) }

/-- reading an attribute -/
theorem getattr_inst {expr : Bool} {Q : Value → Shared → Prop} (B : Base w s.heap) (i : Inst s.heap x f) (hf : f name = some v) (hh : handedIn v = true) (h : Q v { s with toks := s.toks + 1 })
    (ha : findIn (frag w.params) (.ref 141) name = some none) : wpAny (model prog w) A (getAttr (.ref x) name expr) Q E s := by
  obtain ⟨dx, od, k, h1, h2, es, n, rfl, h3, h4, h5⟩ := i
  have I : InstAt s.heap x (instObj 141 dx) 141 (some (dictOf es n)) := ⟨h1, rfl, rfl, h2⟩
  exact get_value B.K I rfl (findObj_own rfl ha rfl (by rw [lookIn_dict, h5, hf])) hh h
/-- a method of the class -/
theorem getm_inst {pl : Sem Bool} {Q : Value × List Value → Shared → Prop} {a : Addr} (B : Base w s.heap) (i : Inst s.heap x f) (hf : f name = none) (h : Q (.ref a, [.ref x]) s)
    (ha : findIn (frag w.params) (.ref 141) name = some (some (.ref a))) (ht : typeIn (frag w.params) (.ref a) = some (.type "function")) : wpAny (model prog w) A (getMethod (.ref x) name pl) Q E s := by
  obtain ⟨dx, od, k, h1, h2, es, n, rfl, h3, h4, h5⟩ := i
  have I : InstAt s.heap x (instObj 141 dx) 141 (some (dictOf es n)) := ⟨h1, rfl, rfl, h2⟩
  refine method_fn B.K I rfl rfl ha ht ?_ h
  show (lookIn name (dictOf es n)).map _ = _
  rw [lookIn_dict, h5, hf]; rfl
end
/-! part F9 -/
def listW (ys : List Value) : Obj → Prop := fun o => o.cls = .type "list" ∧ ∃ n, o.data = .seq ys.toArray n
theorem isList_of {h : Heap} {a : Addr} {o : Obj} {ys : List Value} (e : h.get? a = some o) (p : listW ys o) : h.IsList a ys.toArray := ⟨o, e, p.1, p.2⟩
theorem listW_of {ys : List Value} {o : Obj} (h : listO ys o) : listW ys o := by obtain ⟨n, rfl⟩ := h; exact ⟨rfl, n, rfl⟩

section
variable {prog : Program} {w : World} {A : Around} {E : Value → Shared → Prop} {s₀ s s' : Shared} {g : Heap} {env : Env} {oc : List (Str × Addr)} {m : Str → Option Value} {own pre post : Own} {x dx : Addr} {f : Str → Option Value} {k : Nat} {v : Value} {name : Str} {pos : Pos}

theorem St.own_listW {l : Addr} {ys : List Value} (x : St s₀ g env oc m own s) (k : Keeps s s') (hm : (l, listW ys) ∈ own) : s'.heap.IsList l ys.toArray := by
  obtain ⟨o, ho, hp⟩ := (x.keeps k).mine _ hm
  exact isList_of ho hp
/-- a smaller ground -/
theorem St.shrink {g' : Heap} (X : St s₀ g env oc m own s) (h : Ext g' g) : St s₀ g' env oc m own s :=
  have no : ∀ {b}, g.get? b = none → g'.get? b = none := fun {b} e => by
    cases q : g'.get? b with
    | none => rfl
    | some o => rw [h b o q] at e; cases e
  { X with keep := h.trans X.keep, gL := no X.gL, gC := fun n c e => ⟨no (X.gC n c e).1, (X.gC n c e).2⟩, gO := fun p hp => ⟨no (X.gO p hp).1, (X.gO p hp).2⟩ }

/-- a list times an int -/
theorem mul_k {l : Addr} {ys : List Value} {n : Int} {t : Tok} {Q : Value → Shared → Prop} (hl : s.heap.PlainList l ys.toArray) (hlo : -(2 ^ 63 : Int) ≤ n) (hhi : n < 2 ^ 63) (hsz : ys.length * n.toNat ≤ 2 ^ 24)
    (h : ∀ D s', Keeps s s' → s.heap.get? D = none → s'.heap.PlainList D (List.replicate n.toNat ys).flatten.toArray → Q (.ref D) s') : wpAny (model prog w) A (binaryOp .Mult (.ref l) (.int n t)) Q E s := by
  obtain ⟨k, hl⟩ := hl
  have hsz' : ys.toArray.size * n.toNat ≤ 2 ^ 24 := by simpa using hsz
  refine wpAny_binaryOp_repeat_ref (T := "list") (U := "int") (by decide) ⟨_, hl, rfl⟩ (fun s' => typeIs_int s' n t) noFill_list_mul F.fills_int_mul F.slot_int_rmul repeat_list F.slot_int_index.lookup
    (call_meets F.slot_int_rmul (typeIs_int s n t) F.entry_int_rmul (F.args_int_rmul_2 _ _) (int___rmul___int_list n t l ys.toArray k)
      ⟨hl, rfl, ⟨_, hl, rfl⟩, call_meets F.slot_list_mul ⟨_, hl, rfl⟩ F.entry_list_mul (F.args_list_mul_2 _ _)
        (AutoListH.list___mul___list_int_3 l ys.toArray k n t (by simp [Builtin.List.listFitsIndex]; omega) (by omega) (by simp [Builtin.List.listTooLong, sizeLine]; simp at hsz'; omega))
        ⟨hl, ?_⟩⟩)
  rw [listMul_foldl_if]
  exact h _ _ (Keeps.push _ _) (fresh_ge (Nat.le_refl _)) ⟨0, Heap.get?_push_size _ rfl⟩
/-- a list and a list -/
theorem add_k {l b : Addr} {ys zs : List Value} {Q : Value → Shared → Prop} (hl : s.heap.IsList l ys.toArray) (hb : s.heap.IsList b zs.toArray) (hsz : ys.length + zs.length ≤ sizeLine)
    (h : ∀ D s', Keeps s s' → s.heap.get? D = none → s'.heap.PlainList D (ys ++ zs).toArray → Q (.ref D) s') : wpAny (model prog w) A (binaryOp .Add (.ref l) (.ref b)) Q E s := by
  obtain ⟨⟨cls, dd, data, sl⟩, ho, hc, n, hd⟩ := hl
  obtain ⟨⟨cls2, dd2, data2, sl2⟩, ho2, hc2, n2, hd2⟩ := hb
  simp only at hc hd hc2 hd2
  subst hc hd hc2 hd2
  refine concat_meets ⟨_, ho, rfl⟩ ⟨_, ho2, rfl⟩ noFill_list_add seq_list_add PySem.F.slot_list_add PySem.F.entry_list_add (PySem.F.args_list_add_2 _ _) (list_addW l b ys.toArray zs.toArray n n2 dd dd2 sl sl2 (by simpa using hsz)) ⟨ho, ho2, ?_⟩
  exact h _ _ (Keeps.push _ _) (fresh_ge (Nat.le_refl _)) ⟨0, by rw [Heap.get?_push_size _ rfl]; simp⟩
/-- a tuple of a list -/
theorem tuple_k {l : Addr} {ys : List Value} {Q : Value → Shared → Prop} (hl : s.heap.IsList l ys.toArray) (hsz : ys.length ≤ sizeLine)
    (h : ∀ D s', Keeps s s' → s.heap.get? D = none → s'.heap.IsTuple D ys.toArray → Q (.ref D) s') : wpAny (model prog w) A (call (.type "tuple") [.ref l]) Q E s := by
  refine call_tuple_list hl (fun h' hk => h _ _ ⟨_, _, rfl, fun b o e => Heap.get?_push_of_some _ (hk b o e)⟩ ?_ ⟨_, Heap.get?_push_size _ rfl, rfl, 0, rfl⟩) (by simpa using hsz)
  cases e : s.heap.get? h'.objs.size with
  | none => rfl
  | some o => exact absurd (Heap.lt_size (hk _ _ e)) (Nat.lt_irrefl _)
theorem len_k {l : Addr} {ys : List Value} {Q : Value → Shared → Prop} (hl : s.heap.IsList l ys.toArray) (hsz : ys.length ≤ sizeLine)
    (h : ∀ t s', Keeps s s' → s'.heap = s.heap → Q (.int ys.length t) s') : wpAny (model prog w) A (call (.builtin "len") [.ref l]) Q E s := by
  have e : ys.toArray.size = ys.length := by simp
  refine call_len_list hl (by rw [sizeLine_eq] at hsz; omega) ?_
  rw [e]
  exact h _ _ ⟨_, _, rfl, fun _ _ e => e⟩ rfl
/-- an item of a list of one's own is set -/
theorem set_item_own {l : Addr} {ys : List Value} {i : Int} {t : Tok} {y : Value} {Q : Unit → Shared → Prop} (X : St s₀ g env oc m (pre ++ (l, listW ys) :: post) s) (kp : Keeps s s') (h0 : 0 ≤ i) (h1 : i.toNat < ys.length) (hfit : i < 2 ^ 63)
    (h : ∀ s'', St s₀ g env oc m (pre ++ (l, listW (ys.set i.toNat y)) :: post) s'' → Q () s'') : wpAny (model prog w) A (setItem (.ref l) (.int i t) y) Q E s' := by
  have Y := X.keeps kp
  have hl := Y.own_listW (l := l) (ys := ys) (Keeps.refl _) (List.mem_append_right _ (.head _))
  refine wpAny_setItem_list hl h0 hfit (by simp; omega) fun h' hl' hs => ?_
  obtain ⟨o, e, q⟩ := hl'
  refine h _ (Y.set_own (tk := s'.toks) (P' := listW (ys.set i.toNat y)) (fun b o hb e => hs.extBut b o hb e) e ?_)
  simpa [listW] using q
theorem max2 {a b : Int} {t u : Tok} {Q : Value → Shared → Prop} (hh : A.handled = none) (h : ∀ t' s', Keeps s s' → Q (.int (max a b) t') s') : wpAny (model prog w) A (call (.builtin "max") [.int a t, .int b u]) Q E s := by
  refine max_two_ints hh fun h' tk hk => ?_
  have k : Keeps s { s with heap := h', toks := tk } := ⟨_, _, rfl, hk⟩
  by_cases q : b > a
  · rw [if_pos q]; have e : max a b = b := by omega
    exact e ▸ h u _ k
  · rw [if_neg q]; have e : max a b = a := by omega
    exact e ▸ h t _ k
/-- a method of the class, called -/
theorem call_meth {a : Addr} (f : ∀ P, Fn P a) {first : List Value} {e : Expr} {rest : List Expr} {Q : Value → Shared → Prop} (B : Base w s.heap)
    (h : wpAny (model prog w) A (spliced (backTo pos (starEach (e :: rest) env))) (fun vs s₁ => Base w s₁.heap ∧ wpAny (model prog w) A (call (.ref a) (first ++ vs)) Q E s₁) E s)
    (he : starEach (e :: rest) env = (false, eval e env) :: starEach rest env) : wpAny (model prog w) A (callWith pos (.ref a) first (backTo pos (starEach (e :: rest) env)) []) Q E s := by
  rw [he] at h ⊢
  exact Calls.callWith_function (o := (f w.params).o) (fd := (f w.params).fd) (Calls.evalArgs_plain (wpAny_mono h (fun vs s₁ h₁ => ⟨⟨h₁.1.K _ _ (f w.params).ho, (f w.params).hdata⟩, h₁.2⟩) fun _ _ x => x))
theorem call_meth0 {a : Addr} (f : ∀ P, Fn P a) {first : List Value} {Q : Value → Shared → Prop} (B : Base w s.heap)
    (h : wpAny (model prog w) A (call (.ref a) first) Q E s) : wpAny (model prog w) A (callWith pos (.ref a) first (backTo pos (starEach [] env)) []) Q E s :=
  callWith_meth0 (o := (f w.params).o) (fd := (f w.params).fd) (f w.params).hdata (B.K _ _ (f w.params).ho) h
end
/-! part F10 -/
def Rd (h : Heap) (v : Value) (d : PyData) : Prop := ∃ as, Reads h v d as
def RdAll (h : Heap) (vs : List Value) (ds : List PyData) : Prop := ∃ as, ReadsAll h vs ds as
noncomputable def intsD (ns : List Int) : List PyData := ns.map .int
theorem Rd.keeps {h h' : Heap} {v : Value} {d : PyData} (r : Rd h v d) (k : Ext h h') : Rd h' v d := let ⟨as, x⟩ := r; ⟨as, Reads.keeps k x⟩
theorem RdAll.keeps {h h' : Heap} {vs : List Value} {ds : List PyData} (r : RdAll h vs ds) (k : Ext h h') : RdAll h' vs ds := let ⟨as, x⟩ := r; ⟨as, ReadsAll.keeps k x⟩
theorem Rd.list {h : Heap} {a : Addr} {vs : List Value} {ds : List PyData} (hl : h.IsList a vs.toArray) (r : RdAll h vs ds) : Rd h (.ref a) (.list ds) := by
  obtain ⟨as, x⟩ := r
  obtain ⟨o, e, hc, n, hd⟩ := hl
  exact ⟨_, .list e hc hd (by simpa using x)⟩
theorem Rd.tuple {h : Heap} {a : Addr} {vs : List Value} {ds : List PyData} (hl : h.IsTuple a vs.toArray) (r : RdAll h vs ds) : Rd h (.ref a) (.tuple ds) := by
  obtain ⟨as, x⟩ := r
  obtain ⟨o, e, hc, n, hd⟩ := hl
  exact ⟨_, .tuple e hc hd (by simpa using x)⟩
theorem Rd.int {h : Heap} (i : Int) (t : Tok) : Rd h (.int i t) (.int i) := ⟨_, .int i t⟩
theorem Rd.bool {h : Heap} (b : Bool) : Rd h (.bool b) (.bool b) := ⟨_, .bool b⟩
theorem RdAll.nil {h : Heap} : RdAll h [] [] := ⟨_, .nil⟩
theorem RdAll.cons {h : Heap} {v : Value} {d : PyData} {vs : List Value} {ds : List PyData} (r : Rd h v d) (q : RdAll h vs ds) : RdAll h (v :: vs) (d :: ds) := by
  obtain ⟨as, x⟩ := r; obtain ⟨bs, y⟩ := q; exact ⟨_, .cons x y⟩
theorem RdAll.append {h : Heap} {ws : List Value} {es : List PyData} (q : RdAll h ws es) : ∀ {vs : List Value} {ds : List PyData}, RdAll h vs ds → RdAll h (vs ++ ws) (ds ++ es) := by
  intro vs ds r
  obtain ⟨as, x⟩ := r
  induction vs generalizing ds as with
  | nil => cases x; exact q
  | cons v vs ih =>
    cases x with
    | cons x y => exact RdAll.cons ⟨_, x⟩ (ih _ y)
theorem RdAll.len {h : Heap} {vs : List Value} {ds : List PyData} (r : RdAll h vs ds) : vs.length = ds.length := by
  obtain ⟨as, x⟩ := r
  induction vs generalizing ds as with
  | nil => cases x; rfl
  | cons v vs ih => cases x with | cons x y => simp [ih _ y]
theorem RdAll.ofInts {h : Heap} {vs : List Value} {ns : List Int} (i : IntsAre vs ns) : RdAll h vs (intsD ns) := by
  induction i with
  | nil => exact RdAll.nil
  | cons n t _ ih => exact RdAll.cons (Rd.int n t) ih
theorem eqv_ints : ∀ a b : List Int, PyData.eqvAll (intsD a) (intsD b) = decide (a = b)
  | [], [] => rfl
  | [], _ :: _ => rfl
  | _ :: _, [] => rfl
  | x :: a, y :: b => by
    show (PyData.eqv (.int x) (.int y) && PyData.eqvAll (intsD a) (intsD b)) = _
    rw [eqv_ints a b]
    show ((x == y) && _) = _
    by_cases h : x = y
    · subst h; simp
    · simp [h]
theorem lay_ints : ∀ a : List Int, PyData.canLayAll0 (intsD a) = true
  | [] => rfl
  | _ :: a => by show (true && PyData.canLayAll0 (intsD a)) = true; rw [lay_ints a]; rfl
theorem depth_ints : ∀ a : List Int, PyData.depthAll (intsD a) = 0
  | [] => rfl
  | _ :: a => by show max 0 (PyData.depthAll (intsD a)) = 0; rw [depth_ints a]; rfl
section
variable {prog : Program} {w : World} {A : Around} {E : Value → Shared → Prop} {s : Shared} {a b : Value} {da db : PyData} {Q : Value → Shared → Prop}
theorem eq_rd (ra : Rd s.heap a da) (rb : Rd s.heap b db) (ha : da.canLay0 = true) (hb : db.canLay0 = true) (hd : da.depth ≤ 60) (hu : A.units + 64 < cLine) (h : Q (.bool (PyData.eqv da db)) s) :
    wpAny (model prog w) A (compareOp .Eq a b) Q E s := by
  obtain ⟨as, ra⟩ := ra; obtain ⟨bs, rb⟩ := rb
  exact PySem.SeqAt.compareEq_reads ra rb ha hb (by have := Nat.min_le_left da.depth db.depth; omega) h
theorem ne_rd (ra : Rd s.heap a da) (rb : Rd s.heap b db) (ha : da.canLay0 = true) (hb : db.canLay0 = true) (hd : da.depth ≤ 60) (hu : A.units + 64 < cLine) (h : Q (.bool (!PyData.eqv da db)) s) :
    wpAny (model prog w) A (compareOp .NotEq a b) Q E s := by
  obtain ⟨as, ra⟩ := ra; obtain ⟨bs, rb⟩ := rb
  exact PySem.SeqAt.compareNe_reads ra rb ha hb (by have := Nat.min_le_left da.depth db.depth; omega) h
end
theorem Room.unit64 {A : Around} {d : Nat} (R : Room A d) : A.units + 64 < cLine := by have := R.units; omega

section
variable {prog : Program} {w : World} {A : Around} {E : Value → Shared → Prop} {s : Shared} {Q : Value → Shared → Prop}
theorem len_tuple_k {l : Addr} {ys : List Value} {Q : Value → Shared → Prop} (hl : s.heap.IsTuple l ys.toArray) (hsz : ys.length ≤ sizeLine)
    (h : ∀ t s', Keeps s s' → s'.heap = s.heap → Q (.int ys.length t) s') : wpAny (model prog w) A (call (.builtin "len") [.ref l]) Q E s := by
  have e : ys.toArray.size = ys.length := by simp
  refine PyProof.Rows.len_tuple hl (by rw [sizeLine_eq] at hsz; omega) ?_
  rw [e]
  exact h _ _ ⟨_, _, rfl, fun _ _ e => e⟩ rfl
/-- an item of a tuple, from the front -/
theorem item_t {value slice : Expr} {l : Addr} {vs : List Value} {k : Int} {u : Tok} {v : Value} (hl : s.heap.IsTuple l vs.toArray) (h0 : 0 ≤ k) (hhi : k < 2 ^ 63) (hx : vs[k.toNat]? = some v) (h : Q v s)
    (hs : subscripted slice false (.ref l) (.int k u) = operate [.ref l, .int k u] (getItem (.ref l) (.int k u))) :
    wpAny (model prog w) A (subscriptTail value slice (.ref l) (.int k u)) Q E s := by
  obtain ⟨hlt, _⟩ := List.getElem?_eq_some_iff.mp hx
  exact tail_any hl.typeIs PyProof.Rows.slot_tuple_getitem.lookup (PyProof.Rows.getItem_tuple hl (by omega) hhi (PySem.seqIndex_of h0 (by simp; omega)) (by simpa using hx) h) hs
end
theorem isTuple_keeps {h h' : Heap} {t : Addr} {xs : Array Value} (x : h.IsTuple t xs) (k : Ext h h') : h'.IsTuple t xs := let ⟨o, a, b⟩ := x; ⟨o, k _ _ a, b⟩
theorem isList_keeps {h h' : Heap} {t : Addr} {xs : Array Value} (x : h.IsList t xs) (k : Ext h h') : h'.IsList t xs := let ⟨o, a, b⟩ := x; ⟨o, k _ _ a, b⟩
/-! part F11 -/
def tupO (ys : List Value) : Obj → Prop := fun o => o.cls = .type "tuple" ∧ ∃ n, o.data = .seq ys.toArray n
theorem isTuple_of {h : Heap} {a : Addr} {o : Obj} {ys : List Value} (e : h.get? a = some o) (p : tupO ys o) : h.IsTuple a ys.toArray := ⟨o, e, p.1, p.2⟩
section
variable {prog : Program} {w : World} {A : Around} {E : Value → Shared → Prop} {s₀ s s' : Shared} {g : Heap} {env : Env} {oc : List (Str × Addr)} {m : Str → Option Value} {own pre post : Own} {x dx : Addr} {f : Str → Option Value} {k : Nat} {v : Value} {name : Str} {pos : Pos}
theorem St.push_tup {l : Addr} {ys : List Value} (x : St s₀ g env oc m own s) (hn : s.heap.get? l = none) (k : Keeps s s') (h : s'.heap.IsTuple l ys.toArray) : St s₀ g env oc m ((l, tupO ys) :: own) s' := by
  obtain ⟨o, a, b⟩ := h
  exact x.push_own (P := tupO ys) hn k a b
theorem St.push_list {l : Addr} {ys : List Value} (x : St s₀ g env oc m own s) (hn : s.heap.get? l = none) (k : Keeps s s') (h : s'.heap.PlainList l ys.toArray) : St s₀ g env oc m ((l, listO ys) :: own) s' := by
  obtain ⟨n, a⟩ := h
  exact x.push_own (P := listO ys) hn k a ⟨n, rfl⟩
theorem St.inst (X : St s₀ g env oc m own s) (hm : (dx, attrO f k) ∈ own) (hx : s.heap.get? x = some (instObj 141 dx)) : Inst s.heap x f := by
  obtain ⟨o, e, q⟩ := X.mine _ hm
  exact ⟨dx, o, k, hx, e, q⟩
/-- what is new goes into the ground -/
theorem St.grow (X : St s₀ g env oc m own s) (k : Keeps s s') : ∃ g', Ext g g' ∧ NewIn s.heap s'.heap g' ∧ St s₀ g' env oc m own s' := by
  obtain ⟨g', hg, Y, up⟩ := (X.keeps k).ground
  refine ⟨g', hg, fun b o e hn => ?_, Y⟩
  obtain ⟨h1, h2, h3, h4⟩ := X.apart hn
  exact up b o e h2.symm.symm h3 h4
/-- a value of the class -/
theorem getattr_cls {expr : Bool} {Q : Value → Shared → Prop} (B : Base w s.heap) (h : Q v { s with toks := s.toks + 1 })
    (hr : readsIn (frag w.params) 141 (.type "type") = true) (e : findCls (frag w.params) (.ref 141) (.type "type") name = some (.val v)) (hh : handedIn v = true) : wpAny (model prog w) A (getAttr (.ref 141) name expr) Q E s :=
  cls_value B.K hr e hh h
end
/-! part F12 -/
section
open Builtin Builtin.Str
variable {prog : Program} {w : World} {A : Around} {E : Value → Shared → Prop} {s : Shared} {env : Env} {x y : Str} {t u : Tok}
theorem keeps_tok (s : Shared) (k : Nat) : Keeps s { s with toks := k } := ⟨_, _, rfl, fun _ _ e => e⟩
/-- a slice of a string -/
theorem slice_k {value : Expr} {lower upper : Option Expr} {p pos : Pos} {Q : Value → Shared → Prop}
    (h : wpAny (model prog w) A (eval value env) (fun o s₁ => wpAny (model prog w) A (evalPart lower env) (fun vl s₂ => wpAny (model prog w) A (evalPart upper env) (fun vu s₃ =>
      ∃ x t l u, o = .str x t ∧ vl = partValue l ∧ vu = partValue u ∧ x.length ≤ 10000 ∧ ∀ t' s', Keeps s₃ s' → Q (.str (Txt.slice x (l.map (·.1)) (u.map (·.1))) t') s') E s₂) E s₁) E s)
    (ht : ∀ o r, letTemporaryGo value o r = pure ()) :
    wpAny (model prog w) A (eval (.Subscript value (.Slice lower upper none p) pos) env) Q E s := by
  refine wpAny_Subscript_str_slice (wpAny_mono h (fun o s₁ h₁ => wpAny_mono h₁ (fun vl s₂ h₂ => wpAny_mono h₂ (fun vu s₃ h₃ => ?_) fun _ _ e => e) fun _ _ e => e) fun _ _ e => e) ht
  obtain ⟨x, t, l, u, rfl, rfl, rfl, hx, hQ⟩ := h₃
  refine ⟨x, t, l, u, rfl, rfl, rfl, ?_⟩
  have hle := Txt.slice_le x (l.map (·.1)) (u.map (·.1))
  unfold sliceMade
  unfold Txt.slice at hle hQ
  show Made.post (if ((1 : Int) == 1 && (strSliceIndices (l.map (·.1)) (u.map (·.1)) 1 x.length).length == x.length) = true then _ else _) _ _
  split
  · rename_i hc
    rw [if_pos hc] at hQ
    exact hQ _ _ (Keeps.push _ _)
  · rename_i hc
    rw [if_neg hc] at hQ hle
    refine ⟨by rw [sizeLine_eq]; exact Nat.le_trans hle (by omega), ?_⟩
    exact hQ _ _ (Keeps.trans (Keeps.push _ _) (keeps_tok _ _))
theorem evalPart_k0 {Q : Value → Shared → Prop} (h : Q .none s) : wpAny (model prog w) A (evalPart none env) Q E s := wpAny_pure h
theorem evalPart_k1 {e : Expr} {Q : Value → Shared → Prop} (h : wpAny (model prog w) A (eval e env) Q E s) : wpAny (model prog w) A (evalPart (some e) env) Q E s := h
theorem split_k {Q : Value → Shared → Prop} (hy : (y.length == 0) = false) (hx : x.length ≤ 10000) (hsz2 : (partsBetween x (occurrences x y 0 x.length (x.length + 1)) y.length).length ≤ sizeLine)
    (h : ∀ D l s', l.map (·.1) = Txt.split x y → Keeps s s' → s'.heap.IsList D (strValues l).toArray → Q (.ref D) s') :
    wpAny (model prog w) A (call (.builtin "str.split") [.str x t, .str y u]) Q E s :=
  SCG.split1 (Fm := Keeps s) (fun s' ob k hk => Keeps.trans hk (Keeps.trans (Keeps.push _ _) (keeps_tok _ _))) (Keeps.refl s) hy h (by rw [sizeLine_eq]; omega) hsz2
theorem add_str_k {Q : Value → Shared → Prop} (hsz : (x ++ y).length ≤ 10000) (h : ∀ t' s', Keeps s s' → s'.heap = s.heap → Q (.str (x ++ y) t') s') : wpAny (model prog w) A (binaryOp .Add (.str x t) (.str y u)) Q E s := by
  refine P.add_str ?_
  by_cases h1 : (x.length == 0) = true
  · rw [if_pos h1]
    have : x ++ y = y := by
      obtain ⟨a⟩ := x; obtain ⟨b⟩ := y
      have : a = #[] := by simpa [Str.length] using h1
      subst this
      show (⟨#[] ++ b⟩ : Str) = ⟨b⟩
      simp
    rw [this] at h
    exact h _ _ (Keeps.refl _) rfl
  · rw [if_neg h1]
    by_cases h2 : (y.length == 0) = true
    · rw [if_pos h2]
      have : x ++ y = x := by
        obtain ⟨a⟩ := x; obtain ⟨b⟩ := y
        have : b = #[] := by simpa [Str.length] using h2
        subst this
        show (⟨a ++ #[]⟩ : Str) = ⟨a⟩
        simp
      rw [this] at h
      exact h _ _ (Keeps.refl _) rfl
    · rw [if_neg h2]
      exact ⟨by rw [sizeLine_eq]; omega, h _ _ (keeps_tok _ _) rfl⟩
end
/-! part F13 -/
/-- the part of a heap that is new -/
def newOf (h0 h : Heap) : Heap := restr h fun b => (h0.get? b).isNone
theorem newOf_get {h0 h : Heap} {b : Addr} {o : Obj} (e : h.get? b = some o) (hn : h0.get? b = none) : (newOf h0 h).get? b = some o := restr_get e (by rw [hn]; rfl)
theorem newOf_ext {h0 h h' : Heap} (k : Ext h h') : Ext (newOf h0 h) (newOf h0 h') := fun b o e => restr_get (k b o (restr_of e).1) (restr_of e).2
theorem newOf_new {h0 h gn : Heap} (k : NewIn h0 h gn) : Ext (newOf h0 h) gn := fun b o e => k b o (restr_of e).1 (by have := (restr_of e).2; exact Option.isNone_iff_eq_none.mp this)
theorem not_before {h h' : Heap} {b : Addr} (k : Ext h h') (e : h'.get? b = none) : h.get? b = none := by
  cases q : h.get? b with
  | none => rfl
  | some o => rw [k b o q] at e; cases e
theorem any_ints (n : Int) : ∀ ns : List Int, ((intsD ns).any fun y => PyData.eqv y (.int n)) = ns.contains n
  | [] => rfl
  | a :: ns => by
    show ((a == n) || ((intsD ns).any fun y => PyData.eqv y (.int n))) = _
    rw [any_ints n ns, List.contains_cons]
    congr 1
    exact Bool.beq_comm
section
variable {prog : Program} {w : World} {A : Around} {E : Value → Shared → Prop} {s : Shared} {Q : Value → Shared → Prop} {l : Addr} {vs : List Value} {ns : List Int} {n : Int} {t : Tok}
theorem in_ints_k (hl : s.heap.IsList l vs.toArray) (hi : IntsAre vs ns) (hu : A.units + 64 < cLine) (h : Q (.bool (ns.contains n)) s) : wpAny (model prog w) A (compareOp .In (.int n t) (.ref l)) Q E s := by
  obtain ⟨as, r⟩ := Rd.list hl (RdAll.ofInts hi)
  exact PySem.SeqAt.in_list_reads r (.int n t) (lay_ints ns) rfl (by show _ + 1 + min _ 0 < _; omega) (by rw [any_ints]; exact h)
theorem notin_ints_k (hl : s.heap.IsList l vs.toArray) (hi : IntsAre vs ns) (hu : A.units + 64 < cLine) (h : Q (.bool (!ns.contains n)) s) : wpAny (model prog w) A (compareOp .NotIn (.int n t) (.ref l)) Q E s := by
  obtain ⟨as, r⟩ := Rd.list hl (RdAll.ofInts hi)
  exact PySem.SeqAt.notIn_list_reads r (.int n t) (lay_ints ns) rfl (by show _ + 1 + min _ 0 < _; omega) (by rw [any_ints]; exact h)
theorem eq_ints_k {l' : Addr} {vs' : List Value} {ns' : List Int} (hl : s.heap.IsList l vs.toArray) (hi : IntsAre vs ns) (hl' : s.heap.IsList l' vs'.toArray) (hi' : IntsAre vs' ns') (hu : A.units + 64 < cLine) (h : Q (.bool (decide (ns = ns'))) s) :
    wpAny (model prog w) A (compareOp .Eq (.ref l) (.ref l')) Q E s :=
  eq_rd (Rd.list hl (RdAll.ofInts hi)) (Rd.list hl' (RdAll.ofInts hi')) (lay_ints ns) (lay_ints ns') (by show PyData.depthAll (intsD ns) + 1 ≤ 60; rw [depth_ints]; decide) hu (by show Q (.bool (PyData.eqvAll (intsD ns) (intsD ns'))) s; rw [eqv_ints]; exact h)
end
/-! part F14 -/
def dictP (prog : Program) (w : World) (kvs : List (Int × Value)) : Obj → Prop := fun o => o.IsDictOf (intKind prog w) kvs
section
variable {prog : Program} {w : World} {A : Around} {E : Value → Shared → Prop} {s₀ s s' : Shared} {g : Heap} {env : Env} {oc : List (Str × Addr)} {m : Str → Option Value} {own pre post : Own} {pos : Pos} {d : Addr} {kvs : List (Int × Value)} {n : Int} {t : Tok} {v : Value}

theorem isInt_self (n : Int) (t : Tok) : (intKind prog w).is n (.int n t) = true := by show Value.isInt n (.int n t) = true; simp [Value.isInt]
theorem St.own_dict (x : St s₀ g env oc m own s) (k : Keeps s s') (hm : (d, dictP prog w kvs) ∈ own) : s'.heap.DictOf (intKind prog w) d kvs := by
  obtain ⟨o, ho, hp⟩ := (x.keeps k).mine _ hm
  exact Heap.dictOf_iff.mpr ⟨o, ho, hp⟩
theorem dict0 {Q : Value → Shared → Prop} (B : Base w s.heap) (h : ∀ d s' o, Keeps s s' → s.heap.get? d = none → (d == sysModules) = false → s'.heap.get? d = some o → dictP prog w [] o → Q (.ref d) s') :
    wpAny (model prog w) A (eval (.Dict [] [] pos) env) Q E s := by
  refine wpAny_Dict_empty ?_
  obtain ⟨o, ho, hp⟩ := Heap.dictOf_iff.mp (Heap.DictOf.new (knd := intKind prog w) s.heap)
  have lo := modules_low B.lim
  exact h _ _ o (Keeps.push _ _) (fresh_ge (Nat.le_refl _)) (beq_false_of_ne (Nat.ne_of_gt lo)) ho hp
theorem dict1 {k e : Expr} {Q : Value → Shared → Prop} (B : Base w s.heap)
    (h : ∀ d sP o, Keeps s sP → s.heap.get? d = none → (d == sysModules) = false → sP.heap.get? d = some o → dictP prog w [] o →
      wpAny (model prog w) A (eval k env) (fun kv s₁ => wpAny (model prog w) A (eval e env) (fun v s₂ => ∃ n t, kv = .int n t ∧ Keeps sP s₂ ∧
        ∀ h' tk o', (∀ b o, b ≠ d → s₂.heap.get? b = some o → h'.get? b = some o) → h'.get? d = some o' → dictP prog w [(n, v)] o' → Q (.ref d) { s₂ with heap := h', toks := tk }) E s₁) E sP) :
    wpAny (model prog w) A (eval (.Dict [some k] [e] pos) env) Q E s := by
  obtain ⟨o, ho, hp⟩ := Heap.dictOf_iff.mp (Heap.DictOf.new (knd := intKind prog w) s.heap)
  have lo := modules_low B.lim
  refine wpAny_Dict_walk (knd := intKind prog w) rfl rfl (by simp) (by simp) (pairTrees_cons_walk ?_)
  refine wpAny_mono (h _ _ o (Keeps.push _ _) (fresh_ge (Nat.le_refl _)) (beq_false_of_ne (Nat.ne_of_gt lo)) ho hp) (fun kv s₁ h₁ => wpAny_mono h₁ (fun v s₂ h₂ => ?_) fun _ _ e => e) fun _ _ e => e
  obtain ⟨n, t, rfl, k2, hQ⟩ := h₂
  refine pairTrees_nil_walk ⟨[(n, v)], ⟨isInt_self n t, rfl, trivial⟩, ?_, fun h' hd hs => ?_⟩
  · exact Heap.dictOf_iff.mpr ⟨o, (Keeps.ext k2) _ _ ho, hp⟩
  · obtain ⟨o', e', q'⟩ := Heap.dictOf_iff.mp hd
    exact hQ h' _ o' (fun b o hb e => hs.extBut b o hb e) e' q'
theorem getd_k {value slice : Expr} {Q : Value → Shared → Prop} (hd : s.heap.DictOf (intKind prog w) d kvs) (hv : valueAt kvs n = some v) (h : Q v { s with toks := s.toks + 1 })
    (hs : subscripted slice false (.ref d) (.int n t) = operate [.ref d, .int n t] (getItem (.ref d) (.int n t))) :
    wpAny (model prog w) A (subscriptTail value slice (.ref d) (.int n t)) Q E s :=
  tail_any hd.typeIs slot_dict_getitem.lookup (wpAny_getItem_of (isInt_self n t) hd.mapOf hv h) hs
theorem notind_k {Q : Value → Shared → Prop} (hds : (d == sysModules) = false) (hd : s.heap.DictOf (intKind prog w) d kvs) (h : Q (.bool (!(valueAt kvs n).isSome)) { s with toks := s.toks + 1 }) :
    wpAny (model prog w) A (compareOp .NotIn (.int n t) (.ref d)) Q E s := wpAny_notIn_of (isInt_self n t) hds hd.mapOf h
theorem setd_own {Q : Unit → Shared → Prop} (X : St s₀ g env oc m (pre ++ (d, dictP prog w kvs) :: post) s) (kp : Keeps s s') (hl : kvs.length ≤ sizeLine)
    (h : ∀ s'', St s₀ g env oc m (pre ++ (d, dictP prog w (stored kvs n v)) :: post) s'' → Q () s'') : wpAny (model prog w) A (setItem (.ref d) (.int n t) v) Q E s' := by
  have Y := X.keeps kp
  have hd := Y.own_dict (Keeps.refl _) (List.mem_append_right _ (.head _))
  refine wpAny_setItem_pairs (isInt_self n t) hd (fun h' hd' hs => ?_) hl
  obtain ⟨o, e, q⟩ := Heap.dictOf_iff.mp hd'
  exact h _ (Y.set_own (tk := s'.toks + 1) (P' := dictP prog w (stored kvs n v)) (fun b o hb e => hs.extBut b o hb e) e q)
theorem iterS_dict (hh : A.handled = none) (hds : (d == sysModules) = false) (hd : s.heap.DictOf (intKind prog w) d kvs) : IterS prog w A (.ref d) s kvs.length (fun i v => ∃ k x t, kvs[i]? = some (k, x) ∧ v = .int k t) [d] := by
  obtain ⟨ep, hda⟩ := hd.dictAt
  obtain ⟨od, eod, _⟩ := Heap.dictOf_iff.mp hd
  refine IterS.mono (P := fun i v => ∃ k x, kvs[i]? = some (k, x) ∧ (intKind prog w).is k v = true) ⟨_, _, _, fun Q E h => wpAny_pyIter_dict hds hda h, Walks.dictKeys hh s.heap.objs.size d (Nat.ne_of_lt (Heap.lt_size eod)) kvs ep, ⟨⟨_, Heap.get?_push_size _ rfl, rfl, rfl⟩, hda.push _⟩,
    (fun i h st => let ⟨⟨o, e, _⟩, _⟩ := st; ⟨o, e⟩), rfl, by simpa using fun _ => ⟨od, eod⟩⟩ ?_
  rintro i v ⟨k, x, h1, h2⟩
  obtain ⟨t, rfl⟩ := Value.isInt_shape h2
  exact ⟨k, x, t, h1, rfl⟩
end
end Mine
open PySem PySem.W PySem.Calls PyProof.Rows
set_option Elab.async false
set_option linter.unusedVariables false
set_option maxRecDepth 100000
namespace Mine
local macro_rules | `(tactic| walk_at "mv") => `(tactic| first
  | with_reducible assumption
  | with_reducible exact upd_eq _ _ _
  | (refine (upd_ne _ _ (by decide)).trans ?_; walk_at "mv")
  | rfl)
local macro_rules | `(tactic| walk_at "ex") => `(tactic| first
  | with_reducible assumption
  | with_reducible exact Ext.refl _
  | with_reducible exact St.keep (by assumption))
local macro_rules | `(tactic| walk_at "nm") => `(tactic| first
  | (focus ((with_reducible refine gl_any (by with_reducible constructor) ?_ ?_ ?_ ?_ ?_ ?_); assumption; rotate_left; rfl; rfl; rfl; rfl))
  | ((with_reducible refine' name_cap ?hc ?hx ?_ ?he ?hl ?hk ?hd ?hcd); (case hc => assumption); (case hx => walk_at "ex"); (case he => rfl); (case hl => first | exact .inl rfl | exact .inr rfl); (case hk => rfl); (case hd => decide); (case hcd => decide))
  | (refine' name_l' ?x ?hs ?hv ?_ ?hl ?hk ?hd; (case x => assumption); (case hs => rfl); (case hl => rfl); (case hk => rfl); (case hd => decide); (case hv => walk_at "mv"))
  | (refine' name_c' ?x ?hs ?hv ?_ ?hl ?ho ?he ?hk ?hd; (case x => assumption); (case hs => rfl); (case hl => rfl); (case ho => rfl); (case he => rfl); (case hk => rfl); (case hd => decide); (case hv => walk_at "mv")))
local macro_rules | `(tactic| walk_at "st") => `(tactic| first
  | ((with_reducible refine slice_k ?_ ?ht); (case ht => intro _ _; rfl))
  | (with_reducible first
      | refine wpAny_Constant_int ?_ | refine wpAny_BinOp ?_ | refine evalPart_k0 ?_ | refine evalPart_k1 ?_ | refine Subscript_ ?_ | refine wpAny_Call_NameR ?_ | refine wpAny_items_nil ?_ | refine wpAny_IfExp ?_ | refine wpAny_UnaryOp ?_ | refine wpAny_isTrue_Not ?_ | refine wpAny_isTrue_BoolOp ?_ | refine wpAny_allTrue_And_nil ?_ | refine wpAny_allTrue_Or_nil ?_ | refine wpAny_allTrue_And_cons ?_ | refine wpAny_allTrue_Or_cons ?_ | refine wpAny_truthy_bool ?_ | refine truthy_int ?_ | refine add_int ?_ | refine sub_int ?_ | refine lt_int ?_ | refine le_int ?_ | refine gt_int ?_ | refine ge_int ?_ | refine eq_int ?_ | refine ne_int ?_ | refine neg_int ?_ | refine wpAny_Constant_str ?_ | refine wpAny_Constant_bool ?_ | refine wpAny_Constant_none ?_ | refine wpAny_execs_nil ?_ | refine wpAny_execs_cons ?_ | refine wpAny_Return_some ?_ | refine wpAny_If ?_ | refine wpAny_Break ?_)
  | ((with_reducible first | refine wpAny_Compare1 ?_ ?hm | refine wpAny_isTrue_Compare1 ?_ ?hm); (case hm => with_unfolding_all rfl))
  | ((with_reducible first | refine wpAny_items_cons ?_ ?he | refine wpAny_isTrue_value ?_ ?he); (case he => rfl))
  | ((with_reducible first | refine PyProof.Rows.callWith_type1 ?_ ?he ?hp | refine PyProof.Rows.callWith_builtin1 ?_ ?he ?hp); (case he => rfl); (case hp => rfl))
  | ((with_reducible refine wpAny_Expr ?_ ?hi ?hsw); (case hi => rfl); (case hsw => with_unfolding_all rfl))
  | ((with_reducible refine wpAny_Assign_Name ?_ ?hsw); (case hsw => with_unfolding_all rfl))
  | walk_at "nm")
local macro_rules | `(tactic| walk_at "kp") => `(tactic| first
  | with_reducible assumption
  | with_reducible exact Keeps.refl _
  | exact ⟨_, _, rfl, fun _ _ e => e⟩
  | (refine Keeps.trans ?kpa ?kpb; (case kpb => with_reducible assumption); (case kpa => walk_at "kp"))
  | (refine Keeps.tk ?kpc; (case kpc => walk_at "kp")))
/-! part G1 -/

/-- columns less, one by one -/
noncomputable def lesserB (xs ys : List Int) : Bool := (List.range 6).all fun k => decide (xs.getD k 0 < ys.getD k 0)

theorem lesser_spec {prog : Program} {w : World} {A : Around} {E : Value → Shared → Prop} {s : Shared} {a b : Addr} {va vb : List Value} {xs ys : List Int} {Q : Value → Shared → Prop} {d : Nat}
    (B : Base w s.heap) (R : Room A (d + 2)) (ha : s.heap.IsList a va.toArray) (hb : s.heap.IsList b vb.toArray) (ia : IntsAre va xs) (ib : IntsAre vb ys) (la : xs.length = 6) (lb : ys.length = 6)
    (h : ∀ s', Keeps s s' → Q (.bool (lesserB xs ys)) s') : wpAny (model prog w) A (call (.ref 162) [.ref a, .ref b]) Q E s := by
  refine enterF fnLesser [("one", .ref a), ("other", .ref b)] B R ?hcd ?hbind ?hclo ?hkinds ?hcells ?hco ?hgen ?hk ?_
  ((case hcd => rfl); (case hbind => rfl); (case hclo => rfl); (case hkinds => rfl); (case hcells => rfl); (case hco => rfl); (case hgen => rfl); (case hk => rfl))
  intro L A' s₁ R' B₁ X
  rw [bdLesser.2]; dsimp only [bdLesser]
  have cap1 := X.cap (n := "one") rfl rfl rfl
  have cap2 := X.cap (n := "other") rfl rfl rfl
  walk_at "st"
  walk_at "st"
  walk_at "st"
  refine' comp_mk (F := fun i ys' _ => (ys' = [] ↔ ∀ k < i, xs.getD k 0 < ys.getD k 0)) ?_ ?hmono ?hclos ?hkind ?hnames ?hcells ?hx ?hs
  ((case hclos => with_unfolding_all rfl); (case hkind => rfl); (case hnames => rfl); (case hcells => rfl); (case hs => intro _; rfl))
  (case hx => exact .inl rfl)
  case hmono => exact fun _ _ _ _ _ h => h
  walk_at "st"
  walk_at "st"
  walk_at "st"
  walk_at "st"
  walk_at "st"
  walk_at "st"
  refine range1 fun r s₂ k₂ hr => ?_
  have X₂ := X.keeps (Keeps.trans (Keeps.tok _ _) k₂)
  refine ⟨_, _, _, _, _, _, _, X₂, iterAt_r0 (n := 6) R'.hh hr rfl (by decide), by decide, by simp, ?_, ?_⟩
  · intro C i s₃' g' gF m' own' zs v s₃ E' hi hgF hgs hx3 hC hF hP Y
    obtain ⟨t, rfl⟩ := hP
    have cap1 := cap1.keeps ((Keeps.ext k₂).trans hx3)
    have cap2 := cap2.keeps ((Keeps.ext k₂).trans hx3)
    have la3 : s₃.heap.IsList a va.toArray := ha.at fun o e => hx3 _ o ((Keeps.ext k₂) _ o (X.keep _ o e))
    have lb3 : s₃.heap.IsList b vb.toArray := hb.at fun o e => hx3 _ o ((Keeps.ext k₂) _ o (X.keep _ o e))
    obtain ⟨t1, e1⟩ := IntsAre.get' ia (get_lk (d := 0) (by omega : i < xs.length))
    obtain ⟨t2, e2⟩ := IntsAre.get' ib (get_lk (d := 0) (by omega : i < ys.length))
    refine wpAny_tests_one ?_
    walk_at "st"
    walk_at "st"
    walk_at "st"
    walk_at "st"
    refine item_l la3 (by omega) (by omega) e1 ?_ rfl
    walk_at "st"
    walk_at "st"
    walk_at "st"
    refine item_l lb3 (by omega) (by omega) e2 ?_ rfl
    walk_at "st"
    walk_at "st"
    refine ⟨Keeps.refl _, ?_⟩
    by_cases hd : xs.getD i 0 ≥ ys.getD i 0
    · rw [if_pos (by simpa using hd)]
      walk_at "st"
      refine ⟨Keeps.refl _, fun g'' _ _ => ?_⟩
      constructor
      · intro h; simp at h
      · intro h; have := h i (Nat.lt_succ_self i); omega
    · rw [if_neg (by simpa using hd)]
      refine hF.trans ⟨fun h k hk => ?_, fun h k hk => h k (Nat.lt_succ_of_lt hk)⟩
      rcases Nat.lt_succ_iff_lt_or_eq.mp hk with hk | rfl
      · exact h k hk
      · omega
  · intro D zs g' s₃ hg X₃ k₃ hD hl hF
    refine list_disp ?_
    walk_at "st"
    refine ⟨Nat.zero_le _, fun l s₄ k₄ hl4 hl' => ?_⟩
    refine cmp_nil ((hl.isList.at fun o e => (Keeps.ext k₄) _ o (X₃.keep _ o e))) hl'.isList R'.unit ?_
    dsimp only
    have e : decide (zs = []) = lesserB xs ys := by
      unfold lesserB
      rw [Bool.eq_iff_iff, decide_eq_true_eq, hF, List.all_eq_true]
      simp only [List.mem_range, decide_eq_true_eq]
    rw [e]
    exact h _ (Keeps.trans ((X₃.done (fun _ _ e => hg _ _ e))) k₄)
/-! part G2 -/

/-- the k-th sign of a lead -/
noncomputable def sg (v : Int) (k : Nat) : Nat := if v / 5 / 2 ^ k % 2 = 0 then 32 else 9
noncomputable def leadCodes (v : Int) : List Nat := (List.range (1 + v % 5).toNat).map (sg v)
noncomputable def leadStr (v : Int) : Str := ⟨(leadCodes v).toArray⟩

theorem join_signs (c : Nat → Nat) : ∀ n : Nat, n < 6 → Txt.join (Str.ofString "") ((List.range n).map fun k => (⟨#[c k]⟩ : Str)) = ⟨((List.range n).map c).toArray⟩ ∧ JoinOk (Str.ofString "") ((List.range n).map fun k => (⟨#[c k]⟩ : Str)) = true := by
  intro n hn
  rcases n with _ | _ | _ | _ | _ | _ | n
  · exact ⟨rfl, rfl⟩
  · exact ⟨rfl, rfl⟩
  · exact ⟨rfl, rfl⟩
  · exact ⟨rfl, rfl⟩
  · exact ⟨rfl, rfl⟩
  · exact ⟨rfl, rfl⟩
  · exact absurd hn (Nat.not_lt.mpr (Nat.le_add_left 6 n))
theorem strValues_snoc (l : List (Str × Tok)) (x : Str) (t : Tok) : strValues l ++ [.str x t] = strValues (l ++ [(x, t)]) := by simp [strValues]
theorem blanktab (i : Int) (h : i = 0 ∨ i = 1) : Txt.item (Str.ofString " \t") i = ⟨#[if i = 0 then 32 else 9]⟩ := by rcases h with rfl | rfl <;> decide

theorem blanktab_ok (i : Int) (h : i = 0 ∨ i = 1) : fitsSsize i = true ∧ -((Str.ofString " \t").length : Int) ≤ i ∧ i < ((Str.ofString " \t").length : Int) := by rcases h with rfl | rfl <;> decide

set_option maxHeartbeats 1000000 in
theorem lead_spec {prog : Program} {w : World} {A : Around} {E : Value → Shared → Prop} {s : Shared} {v : Int} {tv : Tok} {Q : Value → Shared → Prop} {d : Nat}
    (B : Base w s.heap) (R : Room A (d + 2)) (h0 : 0 ≤ v)
    (h : ∀ s' t, Keeps s s' → Q (.str (leadStr v) t) s') : wpAny (model prog w) A (call (.ref 150) [.int v tv]) Q E s := by
  refine enterF fnLead [("v", .int v tv)] B R ?hcd ?hbind ?hclo ?hkinds ?hcells ?hco ?hgen ?hk ?_
  ((case hcd => rfl); (case hbind => rfl); (case hclo => rfl); (case hkinds => rfl); (case hcells => rfl); (case hco => rfl); (case hgen => rfl); (case hk => rfl))
  intro L A' s₁ R' B₁ X
  rw [bdLead.2]; dsimp only [bdLead]
  have cap1 := X.cap (n := "v") rfl rfl rfl
  walk_at "st"
  walk_at "st"
  refine MethodCall_ ?_
  walk_at "st"
  walk1
  dsimp only
  refine callWith_method1 ?_
  walk_at "st"
  refine' comp_mk (F := fun i ys' _ => ∃ l : List (Str × Tok), ys' = strValues l ∧ l.map (·.1) = (List.range i).map fun k => (⟨#[sg v k]⟩ : Str)) ?_ ?hmono ?hclos ?hkind ?hnames ?hcells ?hx ?hs
  ((case hclos => with_unfolding_all rfl); (case hkind => rfl); (case hnames => rfl); (case hcells => rfl); (case hs => intro _; rfl))
  (case hx => exact .inl rfl)
  case hmono => exact fun _ _ _ _ _ h => h
  walk_at "st"
  walk_at "st"
  walk_at "st"
  walk_at "st"
  walk_at "st"
  walk_at "st"
  walk_at "st"
  walk_at "st"
  walk_at "st"
  refine mod_int' (by decide) ?_
  walk_at "st"
  walk_at "st"
  refine range1 fun r s₂ k₂ hr => ?_
  have X₂ := X.keeps (Keeps.trans ⟨_, _, rfl, fun _ _ e => e⟩ k₂)
  have hm : v.fmod 5 = v % 5 := Int.fmod_eq_emod_of_nonneg v (by decide)
  rw [hm] at hr
  refine ⟨_, _, _, _, _, _, _, X₂, iterAt_r0 (n := (1 + v % 5).toNat) R'.hh hr (mod5_n v).1 (Nat.lt_trans (mod5_n v).2.1 (by decide)), sz_of (Nat.le_of_lt (Nat.lt_trans (mod5_n v).2.1 (by decide))), ⟨[], rfl, rfl⟩, ?_, ?_⟩
  · intro C i s₃' g' gF m' own' zs v' s₃ E' hi hgF hgs hx3 hC hF hP Y
    obtain ⟨t, rfl⟩ := hP
    have cap1 := cap1.keeps (Ext.trans (b := s₂.heap) (Keeps.ext k₂) hx3)
    refine wpAny_tests_nil ⟨Keeps.refl _, ?_⟩
    rw [if_pos rfl]
    walk_at "st"
    walk_at "st"
    walk_at "st"
    walk_at "st"
    walk_at "st"
    walk_at "st"
    walk_at "st"
    refine floordiv_int (by decide) ?_
    walk_at "st"
    walk_at "st"
    walk_at "st"
    have hi6 : i < 5 := Nat.lt_of_lt_of_le hi (Nat.le_of_lt_succ (mod5_n v).2.1)
    refine pow_int_small (Int.natCast_nonneg i) ((Int.ofNat_le (n := 1000000)).mpr (Nat.le_of_lt (Nat.lt_trans hi6 (by decide)))) (by decide) ?_
    have hp : (2 : Int) ^ ((i : Int)).toNat = 2 ^ i := by rw [Int.toNat_natCast]
    have hp0 : (0 : Int) < 2 ^ i := Int.pow_pos (by decide)
    have hp1 : (2 : Int) ^ i ≤ 16 := (by decide : ∀ i : Fin 5, (2 : Int) ^ i.val ≤ 16) ⟨i, hi6⟩
    refine floordiv_int (by rw [hp]; exact Int.ne_of_gt hp0) ?_ (hp := .inl (PyProof.noPylong_small (by rw [hp]; omega)))
    walk_at "st"
    refine mod_int' (by decide) ?_
    have hidx : (Int.fdiv (Int.fdiv v 5) (2 ^ ((i : Int)).toNat)).fmod 2 = v / 5 / 2 ^ i % 2 := by
      rw [hp, Int.fdiv_eq_ediv_of_nonneg v (by decide), Int.fdiv_eq_ediv_of_nonneg _ (Int.le_of_lt hp0), Int.fmod_eq_emod_of_nonneg _ (by decide)]
    rw [hidx]
    have b0 := Int.emod_two_eq (v / 5 / 2 ^ i)
    have bt := blanktab_ok _ b0
    refine item_str bt.1 bt.2.1 bt.2.2 (fun _ => ?_)
    rw [blanktab _ b0]
    refine ⟨⟨_, _, rfl, fun _ _ e => e⟩, fun g'' _ _ => ?_⟩
    obtain ⟨l, rfl, hl⟩ := hF
    refine ⟨_, strValues_snoc _ _ _, ?_⟩
    rw [List.map_append, hl, List.range_succ, List.map_append]
    rfl
  · intro D zs g' s₃ hg X₃ k₃ hD hl hF
    obtain ⟨l, rfl, hl'⟩ := hF
    walk_at "st"
    have j := join_signs (sg v) (1 + v % 5).toNat (mod5_n v).2.1
    refine SC.join (hl.isList.at fun o e => X₃.keep _ o e) hl' j.2 fun t' k => ?_
    rw [j.1]
    exact h _ _ (Keeps.tk (X₃.done hg))
/-! part G3 -/

/-- one sign's step at a tab size -/
noncomputable def colStep (size c : Int) (z : Nat) : Int := if z = 32 then c + 1 else (c / size + 1) * size
noncomputable def colAt (size : Int) (zs : List Nat) : Int := zs.foldl (colStep size) 0
noncomputable def columnsOf (zs : List Nat) : List Int := (List.range 6).map fun k : Nat => colAt ((k : Int) + 1) zs
theorem columnsOf_len (zs : List Nat) : (columnsOf zs).length = 6 := by simp [columnsOf]

theorem colAt_bound (size : Int) (h1 : 1 ≤ size) (h2 : size ≤ 6) (zs : List Nat) : 0 ≤ colAt size zs ∧ colAt size zs ≤ 6 * zs.length := by
  have gen : ∀ (zs : List Nat) (c : Int), 0 ≤ c → 0 ≤ zs.foldl (colStep size) c ∧ zs.foldl (colStep size) c ≤ c + 6 * zs.length := by
    intro zs
    induction zs with
    | nil => intro c hc; simpa using hc
    | cons z r ih =>
      intro c hc
      have hs : 0 ≤ colStep size c z ∧ colStep size c z ≤ c + 6 := by
        unfold colStep
        split
        · omega
        · have e := Int.mul_ediv_add_emod c size
          have m0 := Int.emod_nonneg c (by omega : size ≠ 0)
          have d0 : 0 ≤ c / size := Int.ediv_nonneg hc (by omega)
          have e2 : (c / size + 1) * size = size * (c / size) + size := by rw [Int.add_mul, Int.mul_comm]; omega
          rw [e2]
          have p0 : 0 ≤ size * (c / size) := Int.mul_nonneg (by omega) d0
          omega
      have := ih (colStep size c z) hs.1
      simp only [List.foldl_cons, List.length_cons]
      omega
  have := gen zs 0 (by omega)
  unfold colAt
  omega

theorem sign_eq (z : Nat) : ((⟨#[z]⟩ : Str) == Str.ofString " ") = decide (z = 32) := by
  rw [show Str.ofString " " = ⟨#[32]⟩ from by decide]
  by_cases h : z = 32
  · subst h; simp
  · rw [decide_eq_false h]
    simp [h]

theorem take_snoc {α : Type} {l : List α} {i : Nat} {x : α} (h : l[i]? = some x) : l.take (i + 1) = l.take i ++ [x] := by
  rw [List.take_add_one, h]; rfl

inductive ColJ1 (l : Addr) (zs : List Nat) (tv : Tok) (i : Nat) (g : Heap) (m' : Str → Option Value) (own' : Own) : Prop
  | mk (vs : List Value) (h0 : own' = [(l, listO vs)]) (h1 : m' "columns" = some (.ref l)) (h2 : m' "lead" = some (.str ⟨zs.toArray⟩ tv)) (h3 : IntsAre vs ((columnsOf zs).take i)) : ColJ1 l zs tv i g m' own'
inductive ColJ2 (l : Addr) (zs : List Nat) (tv t : Tok) (i j : Nat) (g : Heap) (m' : Str → Option Value) (own' : Own) : Prop
  | mk (h0 : own' = []) (h1 : m' "columns" = some (.ref l)) (h2 : m' "lead" = some (.str ⟨zs.toArray⟩ tv)) (h3 : m' "size" = some (.int (1 + (i : Int)) t)) (tc : Tok) (h4 : m' "column" = some (.int (colAt (1 + (i : Int)) (zs.take j)) tc)) : ColJ2 l zs tv t i j g m' own'
set_option maxHeartbeats 2000000 in
theorem columns_spec {prog : Program} {w : World} {A : Around} {E : Value → Shared → Prop} {s : Shared} {zs : List Nat} {tv : Tok} {Q : Value → Shared → Prop} {d : Nat}
    (B : Base w s.heap) (R : Room A (d + 2)) (hz : ∀ z ∈ zs, z < 128) (hl : zs.length ≤ 100)
    (h : ∀ l vs s', Keeps s s' → s.heap.get? l = none → s'.heap.PlainList l vs.toArray → IntsAre vs (columnsOf zs) → Q (.ref l) s') : wpAny (model prog w) A (call (.ref 157) [.str ⟨zs.toArray⟩ tv]) Q E s := by
  refine enterF fnColumns [("lead", .str ⟨zs.toArray⟩ tv)] B R ?hcd ?hbind ?hclo ?hkinds ?hcells ?hco ?hgen ?hk ?_
  ((case hcd => rfl); (case hbind => rfl); (case hclo => rfl); (case hkinds => rfl); (case hcells => rfl); (case hco => rfl); (case hgen => rfl); (case hk => rfl))
  intro L A' s₁ R' B₁ X
  rw [bdColumns.2]; dsimp only [bdColumns]
  walk_at "st"
  walk_at "st"
  refine list_disp ?_
  walk_at "st"
  refine ⟨Nat.zero_le _, fun l s₂ k₂ hl2 hp2 => ?_⟩
  have hl0 : s.heap.get? l = none := by
    cases e : s.heap.get? l with
    | none => rfl
    | some o => rw [X.keep l o e] at hl2; cases hl2
  obtain ⟨n2, e2⟩ := hp2
  have X2 := X.push_own (P := listO []) hl2 k₂ e2 ⟨n2, rfl⟩
  (first | (refine' put_l ?xz1 ?kz1 ?_ ?hlz1 ?hkz1 ?hocz1; (case xz1 => assumption); (case hlz1 => rfl); (case hocz1 => rfl); (case hkz1 => rfl); (case kz1 => walk_at "kp")) | (refine' put_c ?xz1 ?kz1 ?_ ?hlz1 ?hkz1 ?hocz1 ?hez1; (case xz1 => assumption); (case hlz1 => rfl); (case hocz1 => rfl); (case hez1 => rfl); (case hkz1 => rfl); (case kz1 => walk_at "kp")))
  intro s₃ X3
  dsimp only
  walk_at "st"
  (refine for_mk ?_ ?hkz2 ?hsz2 ?hEz2; (case hkz2 => rfl); (case hsz2 => intro _; rfl); (case hEz2 => exact PassesOwn.never))
  have B₃ := B.keeps X3.keep
  walk_at "st"
  walk_at "st"
  walk_at "st"
  walk_at "st"
  walk_at "st"
  walk_at "st"
  walk_at "st"
  walk_at "st"
  refine range2 fun r s₄ k₄ hr => ?_
  have X4 := X3.keeps (Keeps.trans ⟨_, _, rfl, fun _ _ e => e⟩ k₄)
  refine ⟨_, _, _, _, [(l, listO [])], [], _, _, _, ColJ1 l zs tv, X4, iterS_rA (n := 6) R'.hh hr rfl (by decide) (by decide), by simp, by (exact .inl ⟨rfl, hoc_of rfl⟩),
    ⟨[], rfl, by walk_at "mv", by walk_at "mv", .nil⟩, ?_, ?_⟩
  · intro i g' m' own' v I oI s₅ hi hg hJ hP X5
    obtain ⟨vs, rfl, hc, hle, hv⟩ := hJ
    obtain ⟨t, rfl⟩ := hP
    refine hideQ fun Qa hQa => ?_
    walk_at "st"
    walk_at "st"
    walk_at "st"
    (first | (refine' put_l ?xz3 ?kz3 ?_ ?hlz3 ?hkz3 ?hocz3; (case xz3 => assumption); (case hlz3 => rfl); (case hocz3 => rfl); (case hkz3 => rfl); (case kz3 => walk_at "kp")) | (refine' put_c ?xz3 ?kz3 ?_ ?hlz3 ?hkz3 ?hocz3 ?hez3; (case xz3 => assumption); (case hlz3 => rfl); (case hocz3 => rfl); (case hez3 => rfl); (case hkz3 => rfl); (case kz3 => walk_at "kp")))
    intro s₆ X6
    dsimp only
    walk_at "st"
    (refine for_mk ?_ ?hkz4 ?hsz4 ?hEz4; (case hkz4 => rfl); (case hsz4 => intro _; rfl); (case hEz4 => exact PassesOwn.never))
    walk_at "st"
    refine ⟨_, _, _, _, [], [(l, listO vs), (I, (· = oI))], _, _, _, ColJ2 l zs tv t i, X6,
      (iterS_str R'.hh ?_).cast (by simp : _ = zs.length), by simp, by (exact .inl ⟨rfl, hoc_of rfl⟩), ⟨rfl, by walk_at "mv", by walk_at "mv", by walk_at "mv", _, by walk_at "mv"⟩, ?_, ?_⟩
    · simpa using hz
    · intro j g'' m'' own'' v' I' oI' s₇ hj hg'' hJ' hP' X7
      obtain ⟨rfl, hc', hle', hs', tc, hcol⟩ := hJ'
      obtain ⟨c, u, hcu, rfl⟩ := hP'
      have hcz : zs[j]? = some c := by simpa using hcu
      have hb := colAt_bound (1 + (i : Int)) (by omega) (by omega) (zs.take j)
      have hlt : (zs.take j).length ≤ 100 := by rw [List.length_take]; omega
      have enext : colAt (1 + (i : Int)) (zs.take (j + 1)) = colStep (1 + (i : Int)) (colAt (1 + (i : Int)) (zs.take j)) c := by
        rw [take_snoc hcz]; unfold colAt; rw [List.foldl_append]; rfl
      refine hideQ fun Qb hQb => ?_
      walk_at "st"
      walk_at "st"
      walk_at "st"
      walk_at "st"
      walk_at "st"
      walk_at "st"
      refine eq_str ?_
      walk_at "st"
      rw [sign_eq]
      by_cases h32 : c = 32
      · rw [if_pos (by simpa using h32)]
        walk_at "st"
        walk_at "st"
        walk_at "st"
        walk_at "st"
        (first | (refine' put_l ?xz5 ?kz5 ?_ ?hlz5 ?hkz5 ?hocz5; (case xz5 => assumption); (case hlz5 => rfl); (case hocz5 => rfl); (case hkz5 => rfl); (case kz5 => walk_at "kp")) | (refine' put_c ?xz5 ?kz5 ?_ ?hlz5 ?hkz5 ?hocz5 ?hez5; (case xz5 => assumption); (case hlz5 => rfl); (case hocz5 => rfl); (case hez5 => rfl); (case hkz5 => rfl); (case kz5 => walk_at "kp")))
        intro s₈ X8
        dsimp only
        walk_at "st"
        refine hQb _ _ ?_
        exact ⟨_, _, [], Ext.refl _, ⟨rfl, by walk_at "mv", by walk_at "mv", by walk_at "mv", _, by rw [enext, colStep, if_pos h32]; walk_at "mv"⟩, X8⟩
      · rw [if_neg (by simpa using h32)]
        walk_at "st"
        walk_at "st"
        walk_at "st"
        walk_at "st"
        walk_at "st"
        refine floordiv_int (by omega) ?_ (hp := .inl (PyProof.noPylong_small (by omega)))
        walk_at "st"
        walk_at "st"
        walk_at "st"
        have hd := Int.fdiv_eq_ediv_of_nonneg (colAt (1 + (i : Int)) (zs.take j)) (by omega : 0 ≤ 1 + (i : Int))
        rw [hd]
        refine mul_int ?_ (IntMulOk.of_right (intBits_le_64 (by omega) (by omega)))
        (first | (refine' put_l ?xz6 ?kz6 ?_ ?hlz6 ?hkz6 ?hocz6; (case xz6 => assumption); (case hlz6 => rfl); (case hocz6 => rfl); (case hkz6 => rfl); (case kz6 => walk_at "kp")) | (refine' put_c ?xz6 ?kz6 ?_ ?hlz6 ?hkz6 ?hocz6 ?hez6; (case xz6 => assumption); (case hlz6 => rfl); (case hocz6 => rfl); (case hez6 => rfl); (case hkz6 => rfl); (case kz6 => walk_at "kp")))
        intro s₈ X8
        dsimp only
        walk_at "st"
        refine hQb _ _ ?_
        exact ⟨_, _, [], Ext.refl _, ⟨rfl, by walk_at "mv", by walk_at "mv", by walk_at "mv", _, by rw [enext, colStep, if_neg h32]; walk_at "mv"⟩, X8⟩
    · intro g'' m'' own'' s₇ hg'' hJ' X7
      obtain ⟨rfl, hc', hle', hs', tc, hcol⟩ := hJ'
      rw [List.take_length] at hcol
      dsimp only
      walk_at "st"
      walk_at "st"
      refine MethodCall_ ?_
      walk_at "st"
      refine getm_append (X7.own_list (Keeps.refl _) (.head _)) ?_
      dsimp only
      refine callWith_method1 ?_
      walk_at "st"
      walk_at "st"
      walk_at "st"
      refine append_own (pre := []) (post := [(I, (· = oI))]) X7 (Keeps.refl _) (fun s₈ X8 => ?_) (by have := hv.length; rw [List.length_take, columnsOf_len] at this; rw [sizeLine_eq]; omega)
      dsimp only
      walk_at "st"
      refine hQa _ _ ?_
      refine ⟨_, _, [(l, listO (vs ++ [_]))], hg'', ⟨_, rfl, hc', hle', ?_⟩, X8⟩
      have e : (columnsOf zs)[i]? = some (colAt (1 + (i : Int)) zs) := by
        unfold columnsOf
        rw [List.getElem?_map, List.getElem?_range hi, Int.add_comm]
        rfl
      rw [take_snoc e]
      exact IntsAre.snoc hv _ _
  · intro g' m' own' s₅ hg hJ X5
    obtain ⟨vs, rfl, hc, hle, hv⟩ := hJ
    rw [show (columnsOf zs).take 6 = columnsOf zs from List.take_of_length_le (by rw [columnsOf_len]; decide)] at hv
    dsimp only
    walk_at "st"
    walk_at "st"
    walk_at "st"
    exact h l vs s₅ (X5.done hg) hl0 (X5.own_list (Keeps.refl _) (.head _)) hv
/-! part G4 -/
theorem ist_spec {prog : Program} {w : World} {A : Around} {E : Value → Shared → Prop} {s : Shared} {v : Int} {tv : Tok} {Q : Value → Shared → Prop} {d : Nat}
    (B : Base w s.heap) (R : Room A (d + 1)) (h : ∀ s', Keeps s s' → Q (.bool (decide (v < 256))) s') : wpAny (model prog w) A (call (.ref 28) [.int v tv]) Q E s := by
  refine enterF fnIst [("x", .int v tv)] B R ?hcd ?hbind ?hclo ?hkinds ?hcells ?hco ?hgen ?hk ?_
  ((case hcd => rfl); (case hbind => rfl); (case hclo => rfl); (case hkinds => rfl); (case hcells => rfl); (case hco => rfl); (case hgen => rfl); (case hk => rfl))
  intro L A' s₁ R' B₁ X
  rw [bdIst.2]; dsimp only [bdIst]
  walk_at "st"
  walk_at "st"
  walk_at "st"
  walk_at "st"
  walk_at "st"
  walk_at "st"
  exact h _ (X.done (fun _ _ e => e))
theorem isn_spec {prog : Program} {w : World} {A : Around} {E : Value → Shared → Prop} {s : Shared} {v : Int} {tv : Tok} {Q : Value → Shared → Prop} {d : Nat}
    (B : Base w s.heap) (R : Room A (d + 1)) (h : ∀ s', Keeps s s' → Q (.bool (decide (v ≥ 256))) s') : wpAny (model prog w) A (call (.ref 35) [.int v tv]) Q E s := by
  refine enterF fnIsn [("x", .int v tv)] B R ?hcd ?hbind ?hclo ?hkinds ?hcells ?hco ?hgen ?hk ?_
  ((case hcd => rfl); (case hbind => rfl); (case hclo => rfl); (case hkinds => rfl); (case hcells => rfl); (case hco => rfl); (case hgen => rfl); (case hk => rfl))
  intro L A' s₁ R' B₁ X
  rw [bdIsn.2]; dsimp only [bdIsn]
  walk_at "st"
  walk_at "st"
  walk_at "st"
  walk_at "st"
  walk_at "st"
  walk_at "st"
  exact h _ (X.done (fun _ _ e => e))
/-! part G5 -/
structure Ws where
  n : Nat
  nt : Nat
  b : Nat
  cs : List Int
noncomputable def bump (cs : List Int) (b : Nat) : List Int := (cs ++ List.replicate (b + 1 - cs.length) 0).set b ((cs ++ List.replicate (b + 1 - cs.length) 0).getD b 0 + 1)
noncomputable def Ws.step (u : Ws) (z : Nat) : Ws := if z = 32 then { u with n := u.n + 1, b := u.b + 1 } else ⟨u.n + 1, u.nt + 1, 0, bump u.cs u.b⟩
noncomputable def wsOf (lead : List Nat) : Ws := lead.foldl Ws.step ⟨0, 0, 0, []⟩

inductive WsAt (h : Heap) (x : Addr) (u : Ws) : Prop
  | mk (f : Str → Option Value) (tn tnt tb : Tok) (tnorm tcnt : Addr) (vs : List Value) (h1 : Inst h x f) (h2 : f "n" = some (.int u.n tn)) (h3 : f "nt" = some (.int u.nt tnt)) (h4 : f "norm" = some (.ref tnorm))
      (h5 : h.IsTuple tnorm [.ref tcnt, .int u.b tb].toArray) (h6 : h.IsTuple tcnt vs.toArray) (h7 : IntsAre vs u.cs) (h8 : f "is_simple" = some (.bool (decide (u.cs.length ≤ 1)))) (h9 : f "longest_run_of_spaces" = none)
      (h10 : f "indent_level" = none) (h11 : f "equal" = none) (h12 : f "less" = none) : WsAt h x u
theorem WsAt.keeps {h h' : Heap} {x : Addr} {u : Ws} (i : WsAt h x u) (k : Ext h h') : WsAt h' x u := by
  obtain ⟨f, tn, tnt, tb, tnorm, tcnt, vs, h1, h2, h3, h4, h5, h6, h7, h8, h9, h10, h11, h12⟩ := i
  exact ⟨f, tn, tnt, tb, tnorm, tcnt, vs, h1.keeps k, h2, h3, h4, isTuple_keeps h5 k, isTuple_keeps h6 k, h7, h8, h9, h10, h11, h12⟩

theorem longest_spec {prog : Program} {w : World} {A : Around} {E : Value → Shared → Prop} {s : Shared} {x : Addr} {u : Ws} {Q : Value → Shared → Prop} {d : Nat}
    (B : Base w s.heap) (R : Room A (d + 1)) (i : WsAt s.heap x u) (hlen : u.cs.length ≤ 1000) (h : ∀ t s', Keeps s s' → Q (.int (max ((u.cs.length : Int) - 1) u.b) t) s') : wpAny (model prog w) A (call (.ref 103) [.ref x]) Q E s := by
  refine enterF fnLongest [("self", .ref x)] B R ?hcd ?hbind ?hclo ?hkinds ?hcells ?hco ?hgen ?hk ?_
  ((case hcd => rfl); (case hbind => rfl); (case hclo => rfl); (case hkinds => rfl); (case hcells => rfl); (case hco => rfl); (case hgen => rfl); (case hk => rfl))
  intro L A' s₁ R' B₁ X
  rw [bdLongest.2]; dsimp only [bdLongest]
  obtain ⟨f, tn, tnt, tb, tnorm, tcnt, vs, h1, h2, h3, h4, h5, h6, h7, h8⟩ := id i
  walk_at "st"
  refine Assign_Tuple ?_
  refine Attribute_name ?_
  walk_at "st"
  refine getattr_inst B₁ (h1.keeps X.keep) h4 rfl ?_ rfl
  refine pair_st R'.hh X ⟨_, _, rfl, fun _ _ e => e⟩ (isTuple_keeps h5 X.keep) (fun s₂ X2 => ?_) rfl rfl rfl rfl rfl
  have B₂ := B.keeps X2.keep
  walk_at "st"
  walk_at "st"
  walk_at "st"
  walk_at "st"
  walk_at "st"
  walk_at "st"
  walk_at "st"
  walk_at "st"
  walk_at "st"
  walk_at "st"
  walk_at "st"
  walk_at "st"
  walk_at "st"
  refine len_tuple_k (isTuple_keeps h6 X2.keep) (by rw [h7.length, sizeLine_eq]; omega) fun t s₃ k₃ e₃ => ?_
  have X3 := X2.keeps k₃
  walk_at "st"
  walk_at "st"
  walk_at "st"
  walk_at "st"
  walk_at "st"
  refine max2 R'.hh fun t' s₄ k₄ => ?_
  rw [h7.length]
  exact h _ _ (Keeps.trans (X2.done (fun _ _ e => e)) (Keeps.trans k₃ (Keeps.trans ⟨_, _, rfl, fun _ _ e => e⟩ k₄)))

/-- the sum of the levels from a column on -/
noncomputable def ilUp (ts : Nat) (cs : List Int) : Nat → Int
  | 0 => 0
  | k + 1 => ilUp ts cs k + ((ts + k) / ts : Nat) * cs.getD (ts + k) 0
noncomputable def Ws.level (u : Ws) (ts : Nat) : Int := u.b + ts * (ilUp ts u.cs (u.cs.length - ts) + u.nt)

theorem indent_spec {prog : Program} {w : World} {A : Around} {E : Value → Shared → Prop} {s : Shared} {x : Addr} {u : Ws} {ts : Nat} {tt : Tok} {Q : Value → Shared → Prop} {d : Nat}
    (B : Base w s.heap) (R : Room A (d + 1)) (i : WsAt s.heap x u) (hlen : u.cs.length ≤ 1000) (ht0 : 0 < ts) (ht : ts ≤ 1000) (hc : ∀ c ∈ u.cs, 0 ≤ c ∧ c ≤ 1000) (h : ∀ t s', Keeps s s' → Q (.int (u.level ts) t) s') : wpAny (model prog w) A (call (.ref 110) [.ref x, .int ts tt]) Q E s := by
  refine enterF fnIndent [("self", .ref x), ("tabsize", .int ts tt)] B R ?hcd ?hbind ?hclo ?hkinds ?hcells ?hco ?hgen ?hk ?_
  ((case hcd => rfl); (case hbind => rfl); (case hclo => rfl); (case hkinds => rfl); (case hcells => rfl); (case hco => rfl); (case hgen => rfl); (case hk => rfl))
  intro L A' s₁ R' B₁ X
  rw [bdIndent.2]; dsimp only [bdIndent]
  obtain ⟨f, tn, tnt, tb, tnorm, tcnt, vs, h1, h2, h3, h4, h5, h6, h7, h8⟩ := id i
  walk_at "st"
  refine Assign_Tuple ?_
  refine Attribute_name ?_
  walk_at "st"
  refine getattr_inst B₁ (h1.keeps X.keep) h4 rfl ?_ rfl
  refine pair_st R'.hh X ⟨_, _, rfl, fun _ _ e => e⟩ (isTuple_keeps h5 X.keep) (fun s₂ X2 => ?_) rfl rfl rfl rfl rfl
  have B₂ := B.keeps X2.keep
  (repeat (walk_at "st"))
  (first | (refine' put_l ?xz7 ?kz7 ?_ ?hlz7 ?hkz7 ?hocz7; (case xz7 => assumption); (case hlz7 => rfl); (case hocz7 => rfl); (case hkz7 => rfl); (case kz7 => walk_at "kp")) | (refine' put_c ?xz7 ?kz7 ?_ ?hlz7 ?hkz7 ?hocz7 ?hez7; (case xz7 => assumption); (case hlz7 => rfl); (case hocz7 => rfl); (case hez7 => rfl); (case hkz7 => rfl); (case kz7 => walk_at "kp")))
  intro s₃ X3
  dsimp only
  walk_at "st"
  (refine for_mk ?_ ?hkz8 ?hsz8 ?hEz8; (case hkz8 => rfl); (case hsz8 => intro _; rfl); (case hEz8 => exact PassesOwn.never))
  have B₃ := B.keeps X3.keep
  (repeat (walk_at "st"))
  refine len_tuple_k (isTuple_keeps h6 X3.keep) (by rw [h7.length, sizeLine_eq]; omega) fun t s₄ k₄ e₄ => ?_
  have X4 := X3.keeps k₄
  (repeat (walk_at "st"))
  refine range2 fun r s₅ k₅ hr => ?_
  have X5 := X4.keeps k₅
  rw [h7.length] at hr
  refine ⟨_, _, _, _, [], [], _, _, _, fun k _ m' own' => own' = [] ∧ m' "self" = some (.ref x) ∧ m' "tabsize" = some (.int ts tt) ∧ m' "count" = some (.ref tcnt) ∧ m' "trailing" = some (.int u.b tb) ∧ ∃ ti, m' "il" = some (.int (ilUp ts u.cs k) ti), X5,
    iterS_rA (n := u.cs.length - ts) R'.hh hr (toNat_sub _ _) (by omega) (by omega), by simp, by (exact .inl ⟨rfl, hoc_of rfl⟩),
    ⟨rfl, by walk_at "mv", by walk_at "mv", by walk_at "mv", by walk_at "mv", _, by walk_at "mv"⟩, ?_, ?_⟩
  · intro k g' m' own' v I oI s₆ hk hg hJ hP X6
    obtain ⟨rfl, e1, e2, e3, e4, ti, e5⟩ := hJ
    obtain ⟨tk, rfl⟩ := hP
    refine hideQ fun Q1 hQ1 => ?_
    have k06 : Ext s.heap s₆.heap := hg.trans X6.keep
    (repeat (walk_at "st"))
    refine floordiv_int (by omega) ?_ (hp := .inl (PyProof.noPylong_small (by omega)))
    (repeat (walk_at "st"))
    obtain ⟨tc, ec⟩ := IntsAre.get' h7 (get_lk (d := 0) (by omega : ts + k < u.cs.length))
    refine item_t (v := .int (u.cs.getD (ts + k) 0) tc) (isTuple_keeps h6 k06) (by omega) (by omega) (by rw [show ((ts : Int) + (k : Int)).toNat = ts + k from by omega]; exact ec) ?_ rfl
    have hcb := hc (u.cs.getD (ts + k) 0) (by rw [List.getD_eq_getElem?_getD, List.getElem?_eq_getElem (by omega : ts + k < u.cs.length)]; exact List.getElem_mem _)
    refine mul_int ?_ (IntMulOk.of_right (intBits_le_64 (by omega) (by omega)))
    (repeat (walk_at "st"))
    (first | (refine' put_l ?xz9 ?kz9 ?_ ?hlz9 ?hkz9 ?hocz9; (case xz9 => assumption); (case hlz9 => rfl); (case hocz9 => rfl); (case hkz9 => rfl); (case kz9 => walk_at "kp")) | (refine' put_c ?xz9 ?kz9 ?_ ?hlz9 ?hkz9 ?hocz9 ?hez9; (case xz9 => assumption); (case hlz9 => rfl); (case hocz9 => rfl); (case hez9 => rfl); (case hkz9 => rfl); (case kz9 => walk_at "kp")))
    intro s₇ X7
    dsimp only
    (repeat (walk_at "st"))
    have ev : ilUp ts u.cs k + ((ts : Int) + k).fdiv ts * u.cs.getD (ts + k) 0 = ilUp ts u.cs (k + 1) := by
      show _ = ilUp ts u.cs k + _
      rw [Int.fdiv_eq_ediv_of_nonneg _ (by omega)]
      simp
    rw [ev] at X7
    refine hQ1 _ _ ?_
    exact ⟨_, _, [], Ext.refl _, ⟨rfl, by walk_at "mv", by walk_at "mv", by walk_at "mv", by walk_at "mv", _, by walk_at "mv"⟩, X7⟩
  · intro g' m' own' s₆ hg hJ X6
    obtain ⟨rfl, e1, e2, e3, e4, ti, e5⟩ := hJ
    dsimp only
    have k06 : Ext s.heap s₆.heap := hg.trans X6.keep
    (repeat (walk_at "st"))
    refine Attribute_name ?_
    walk_at "st"
    refine getattr_inst (B.keeps k06) (h1.keeps k06) h3 rfl ?_ rfl
    (repeat (walk_at "st"))
    refine mul_int ?_ (IntMulOk.of_left (intBits_le_64 (by omega) (by omega)))
    (repeat (walk_at "st"))
    exact h _ _ (Keeps.trans (X6.done hg) ⟨_, _, rfl, fun _ _ e => e⟩)
/-! part G6 -/
noncomputable def normD (u : Ws) : PyData := .tuple [.tuple (intsD u.cs), .int u.b]
noncomputable def eqW (u v : Ws) : Bool := decide (u.cs = v.cs) && decide (u.b = v.b)
theorem eqv_norm (u v : Ws) : PyData.eqv (normD u) (normD v) = eqW u v := by
  show (PyData.eqvAll (intsD u.cs) (intsD v.cs) && (((u.b : Int) == (v.b : Int)) && true)) = _
  rw [eqv_ints]
  unfold eqW
  congr 1
  by_cases h : u.b = v.b <;> simp [h]
  omega
theorem lay_norm (u : Ws) : (normD u).canLay0 = true := by
  show (PyData.canLayAll0 (intsD u.cs) && (true && true)) = true
  rw [lay_ints]; rfl
theorem depth_norm (u : Ws) : (normD u).depth ≤ 60 := by
  show max (PyData.depthAll (intsD u.cs) + 1) (max 0 0) + 1 ≤ 60
  rw [depth_ints]; decide
theorem rd_norm {h : Heap} {u : Ws} {tnorm tcnt : Addr} {tb : Tok} {vs : List Value} (h5 : h.IsTuple tnorm [.ref tcnt, .int u.b tb].toArray) (h6 : h.IsTuple tcnt vs.toArray) (h7 : IntsAre vs u.cs) : Rd h (.ref tnorm) (normD u) :=
  Rd.tuple h5 (RdAll.cons (Rd.tuple h6 (RdAll.ofInts h7)) (RdAll.cons (Rd.int _ _) RdAll.nil))

theorem equal_spec {prog : Program} {w : World} {A : Around} {E : Value → Shared → Prop} {s : Shared} {x y : Addr} {u v : Ws} {Q : Value → Shared → Prop} {d : Nat}
    (B : Base w s.heap) (R : Room A (d + 1)) (i : WsAt s.heap x u) (j : WsAt s.heap y v) (h : ∀ s', Keeps s s' → Q (.bool (eqW u v)) s') : wpAny (model prog w) A (call (.ref 117) [.ref x, .ref y]) Q E s := by
  refine enterF fnEqual [("self", .ref x), ("other", .ref y)] B R ?hcd ?hbind ?hclo ?hkinds ?hcells ?hco ?hgen ?hk ?_
  ((case hcd => rfl); (case hbind => rfl); (case hclo => rfl); (case hkinds => rfl); (case hcells => rfl); (case hco => rfl); (case hgen => rfl); (case hk => rfl))
  intro L A' s₁ R' B₁ X
  rw [bdEqual.2]; dsimp only [bdEqual]
  obtain ⟨f, tn, tnt, tb, tnorm, tcnt, vs, h1, h2, h3, h4, h5, h6, h7, h8⟩ := id i
  obtain ⟨f', tn', tnt', tb', tnorm', tcnt', vs', h1', h2', h3', h4', h5', h6', h7', h8'⟩ := id j
  (repeat (walk_at "st"))
  refine Attribute_name ?_
  walk_at "st"
  refine getattr_inst B₁ (h1.keeps X.keep) h4 rfl ?_ rfl
  refine Attribute_name ?_
  walk_at "st"
  refine getattr_inst B₁ (h1'.keeps X.keep) h4' rfl ?_ rfl
  refine eq_rd ((rd_norm h5 h6 h7).keeps X.keep) ((rd_norm h5' h6' h7').keeps X.keep) (lay_norm u) (lay_norm v) (depth_norm u) R'.unit64 ?_
  rw [eqv_norm]
  exact h _ (Keeps.trans (X.done (fun _ _ e => e)) ⟨_, _, rfl, fun _ _ e => e⟩)

noncomputable def Ws.longest (u : Ws) : Nat := max (u.cs.length - 1) u.b
theorem longest_int (u : Ws) : max ((u.cs.length : Int) - 1) u.b = (u.longest : Int) := by unfold Ws.longest; exact longest_int'
noncomputable def lessW (u v : Ws) : Bool := if u.n ≥ v.n then false else if u.cs.length ≤ 1 ∧ v.cs.length ≤ 1 then decide (u.nt ≤ v.nt) else (List.range (max u.longest v.longest)).all fun k => decide (u.level (2 + k) < v.level (2 + k))
structure Ws.Ok (u : Ws) : Prop where
  len : u.cs.length ≤ 100
  b : u.b ≤ 100
  cs : ∀ c ∈ u.cs, 0 ≤ c ∧ c ≤ 1000

set_option maxHeartbeats 1000000 in
theorem less_spec {prog : Program} {w : World} {A : Around} {E : Value → Shared → Prop} {s : Shared} {x y : Addr} {u v : Ws} {Q : Value → Shared → Prop} {d : Nat}
    (B : Base w s.heap) (R : Room A (d + 2)) (i : WsAt s.heap x u) (j : WsAt s.heap y v) (ou : u.Ok) (ov : v.Ok) (h : ∀ s', Keeps s s' → Q (.bool (lessW u v)) s') : wpAny (model prog w) A (call (.ref 131) [.ref x, .ref y]) Q E s := by
  refine enterF fnLess [("self", .ref x), ("other", .ref y)] B R ?hcd ?hbind ?hclo ?hkinds ?hcells ?hco ?hgen ?hk ?_
  ((case hcd => rfl); (case hbind => rfl); (case hclo => rfl); (case hkinds => rfl); (case hcells => rfl); (case hco => rfl); (case hgen => rfl); (case hk => rfl))
  intro L A' s₁ R' B₁ X
  rw [bdLess.2]; dsimp only [bdLess]
  obtain ⟨f, tn, tnt, tb, tnorm, tcnt, vs, h1, h2, h3, h4, h5, h6, h7, h8, h9, h10, h11, h12⟩ := id i
  obtain ⟨f', tn', tnt', tb', tnorm', tcnt', vs', h1', h2', h3', h4', h5', h6', h7', h8', h9', h10', h11', h12'⟩ := id j
  (repeat (walk_at "st"))
  refine Attribute_name ?_
  walk_at "st"
  refine getattr_inst B₁ (h1.keeps X.keep) h2 rfl ?_ rfl
  refine Attribute_name ?_
  walk_at "st"
  refine getattr_inst B₁ (h1'.keeps X.keep) h2' rfl ?_ rfl
  (repeat (walk_at "st"))
  by_cases c1 : u.n ≥ v.n
  · rw [if_pos (by simpa using c1)]
    (repeat (walk_at "st"))
    have el : lessW u v = false := by unfold lessW; rw [if_pos c1]
    rw [el] at h
    exact h _ (Keeps.trans (X.done (fun _ _ e => e)) ⟨_, _, rfl, fun _ _ e => e⟩)
  rw [if_neg (by simpa using c1)]
  walk_at "st"
  dsimp only
  walk_at "st"
  walk_at "st"
  refine wpAny_mono (Q := fun b s₂ => b = decide (u.cs.length ≤ 1 ∧ v.cs.length ≤ 1) ∧ Keeps s₁ s₂) ?_ (fun b s₂ hb => ?_) (fun _ _ e => e)
  · (repeat (walk_at "st"))
    refine Attribute_name ?_
    walk_at "st"
    refine getattr_inst B₁ (h1.keeps X.keep) h8 rfl ?_ rfl
    (repeat (walk_at "st"))
    by_cases c2 : u.cs.length ≤ 1
    · rw [if_pos (by simpa using c2)]
      (repeat (walk_at "st"))
      refine Attribute_name ?_
      walk_at "st"
      refine getattr_inst B₁ (h1'.keeps X.keep) h8' rfl ?_ rfl
      (repeat (walk_at "st"))
      by_cases c3 : v.cs.length ≤ 1
      · rw [if_pos (by simpa using c3)]
        (repeat (walk_at "st"))
        exact ⟨by simp [c2, c3], ⟨_, _, rfl, fun _ _ e => e⟩⟩
      · rw [if_neg (by simpa using c3)]
        exact ⟨by simp [c2, c3], ⟨_, _, rfl, fun _ _ e => e⟩⟩
    · rw [if_neg (by simpa using c2)]
      exact ⟨by simp [c2], ⟨_, _, rfl, fun _ _ e => e⟩⟩
  obtain ⟨rfl, k12⟩ := hb
  have X2 := X.keeps k12
  have B₂ := B.keeps X2.keep
  by_cases c2 : u.cs.length ≤ 1 ∧ v.cs.length ≤ 1
  · rw [if_pos (by simpa using c2)]
    (repeat (walk_at "st"))
    refine Attribute_name ?_
    walk_at "st"
    refine getattr_inst B₂ (h1.keeps X2.keep) h3 rfl ?_ rfl
    refine Attribute_name ?_
    walk_at "st"
    refine getattr_inst B₂ (h1'.keeps X2.keep) h3' rfl ?_ rfl
    (repeat (walk_at "st"))
    have el : lessW u v = decide ((u.nt : Int) ≤ v.nt) := by unfold lessW; rw [if_neg c1, if_pos c2]; simp
    rw [el] at h
    exact h _ (Keeps.trans (X2.done (fun _ _ e => e)) ⟨_, _, rfl, fun _ _ e => e⟩)
  rw [if_neg (by simpa using c2)]
  (repeat (walk_at "st"))
  refine MethodCall_ ?_
  walk_at "st"
  refine getm_inst B₂ (h1.keeps X2.keep) h9 ?_ rfl rfl
  refine call_meth0 fnLongest B₂ ?_
  refine longest_spec B₂ R' (i.keeps X2.keep) (by have := ou.len; omega) fun t3 s₃ k3 => ?_
  have X3 := X2.keeps k3
  have B₃ := B.keeps X3.keep
  walk_at "st"
  refine MethodCall_ ?_
  walk_at "st"
  refine getm_inst B₃ (h1'.keeps X3.keep) h9' ?_ rfl rfl
  refine call_meth0 fnLongest B₃ ?_
  refine longest_spec B₃ R' (j.keeps X3.keep) (by have := ov.len; omega) fun t4 s₄ k4 => ?_
  have X4 := X3.keeps k4
  have B₄ := B.keeps X4.keep
  rw [longest_int, longest_int]
  (repeat (walk_at "st"))
  refine max2 R'.hh fun t5 s₅ k5 => ?_
  have X5 := X4.keeps k5
  have B₅ := B.keeps X5.keep
  (repeat (walk_at "st"))
  (first | (refine' put_l ?xz10 ?kz10 ?_ ?hlz10 ?hkz10 ?hocz10; (case xz10 => assumption); (case hlz10 => rfl); (case hocz10 => rfl); (case hkz10 => rfl); (case kz10 => walk_at "kp")) | (refine' put_c ?xz10 ?kz10 ?_ ?hlz10 ?hkz10 ?hocz10 ?hez10; (case xz10 => assumption); (case hlz10 => rfl); (case hocz10 => rfl); (case hez10 => rfl); (case hkz10 => rfl); (case kz10 => walk_at "kp")))
  intro s₆ X6
  dsimp only
  have B₆ := B.keeps X6.keep
  walk_at "st"
  (refine for_mk ?_ ?hkz11 ?hsz11 ?hEz11; (case hkz11 => rfl); (case hsz11 => intro _; rfl); (case hEz11 => exact PassesOwn.never))
  (repeat (walk_at "st"))
  refine range2 fun r s₇ k₇ hr => ?_
  have X7 := X6.keeps (Keeps.trans ⟨_, _, rfl, fun _ _ e => e⟩ k₇)
  have lu : u.longest ≤ 200 := by unfold Ws.longest; exact max_of (Nat.le_trans ou.len (by decide)) (Nat.le_trans ou.b (by decide))
  have lv : v.longest ≤ 200 := by unfold Ws.longest; exact max_of (Nat.le_trans ov.len (by decide)) (Nat.le_trans ov.b (by decide))
  refine ⟨_, _, _, _, [], [], _, _, _, fun k _ m' own' => own' = [] ∧ m' "self" = some (.ref x) ∧ m' "other" = some (.ref y) ∧ ∀ k' < k, u.level (2 + k') < v.level (2 + k'), X7,
    iterS_rA (n := max u.longest v.longest) R'.hh hr (by omega) (by omega) (by omega), by simp, by (exact .inl ⟨rfl, hoc_of rfl⟩),
    ⟨rfl, by walk_at "mv", by walk_at "mv", fun _ h => absurd h (Nat.not_lt_zero _)⟩, ?_, ?_⟩
  · intro k g' m' own' vv I oI s₈ hk hg hJ hP X8
    obtain ⟨rfl, e1, e2, e3⟩ := hJ
    obtain ⟨tk, rfl⟩ := hP
    have ek : (2 : Int) + (k : Int) = ((2 + k : Nat) : Int) := by omega
    rw [ek] at X8
    have k08 : Ext s.heap s₈.heap := hg.trans X8.keep
    have B₈ := B.keeps k08
    refine hideQ fun Q1 hQ1 => ?_
    (repeat (walk_at "st"))
    refine MethodCall_ ?_
    walk_at "st"
    refine getm_inst B₈ (h1.keeps k08) h10 ?_ rfl rfl
    refine call_meth fnIndent B₈ ?_ rfl
    (repeat (walk_at "st"))
    refine ⟨B₈, ?_⟩
    refine indent_spec B₈ R' (i.keeps k08) (by have := ou.len; omega) (by omega) (by omega) ou.cs fun t9 s₉ k9 => ?_
    have X9 := X8.keeps k9
    have k09 : Ext s.heap s₉.heap := hg.trans X9.keep
    have B₉ := B.keeps k09
    refine MethodCall_ ?_
    walk_at "st"
    refine getm_inst B₉ (h1'.keeps k09) h10' ?_ rfl rfl
    refine call_meth fnIndent B₉ ?_ rfl
    (repeat (walk_at "st"))
    refine ⟨B₉, ?_⟩
    refine indent_spec B₉ R' (j.keeps k09) (by have := ov.len; omega) (by omega) (by omega) ov.cs fun t10 s₁₀ k10 => ?_
    have X10 := X9.keeps k10
    (repeat (walk_at "st"))
    by_cases c4 : u.level (2 + k) ≥ v.level (2 + k)
    · rw [if_pos (by simpa using c4)]
      (repeat (walk_at "st"))
      have ef : ((List.range (max u.longest v.longest)).all fun k => decide (u.level (2 + k) < v.level (2 + k))) = false := by
        rw [List.all_eq_false]
        exact ⟨k, List.mem_range.mpr hk, by simpa using c4⟩
      have el : lessW u v = false := by unfold lessW; rw [if_neg c1, if_neg c2]; exact ef
      rw [el] at h
      refine hQ1 _ _ ?_
      exact h _ (Keeps.trans (X10.done hg) ⟨_, _, rfl, fun _ _ e => e⟩)
    · rw [if_neg (by simpa using c4)]
      (repeat (walk_at "st"))
      refine hQ1 _ _ ?_
      refine ⟨_, _, [], Ext.refl _, ⟨rfl, by walk_at "mv", by walk_at "mv", fun k' hk' => ?_⟩, X10⟩
      rcases Nat.lt_succ_iff_lt_or_eq.mp hk' with q | rfl
      · exact e3 k' q
      · omega
  · intro g' m' own' s₈ hg hJ X8
    obtain ⟨rfl, e1, e2, e3⟩ := hJ
    dsimp only
    (repeat (walk_at "st"))
    have ef : ((List.range (max u.longest v.longest)).all fun k => decide (u.level (2 + k) < v.level (2 + k))) = true := by
      rw [List.all_eq_true]
      exact fun k hk => by simpa using e3 k (List.mem_range.mp hk)
    have el : lessW u v = true := by unfold lessW; rw [if_neg c1, if_neg c2]; exact ef
    rw [el] at h
    exact h _ (X8.done hg)
/-! part G7 -/
theorem tab_eq (z : Nat) : ((⟨#[z]⟩ : Str) == Str.ofString "\t") = decide (z = 9) := by
  rw [show Str.ofString "\t" = ⟨#[9]⟩ from by decide]
  by_cases h : z = 9
  · subst h; simp
  · rw [decide_eq_false h]
    simp [h]
theorem ints_rep (t : Tok) : ∀ k : Nat, IntsAre (List.replicate k [Value.int 0 t]).flatten (List.replicate k 0)
  | 0 => .nil
  | k + 1 => by
    rw [List.replicate_succ, List.replicate_succ, List.flatten_cons]
    exact .cons 0 t (ints_rep t k)
theorem ints_set {vs : List Value} {ns : List Int} (h : IntsAre vs ns) : ∀ (i : Nat) (n : Int) (t : Tok), IntsAre (vs.set i (.int n t)) (ns.set i n) := by
  induction h with
  | nil => intro i n t; exact .nil
  | cons n' t' h ih =>
    intro i n t
    cases i with
    | zero => exact .cons n t h
    | succ i => exact .cons n' t' (ih i n t)
theorem ws_small (zs : List Nat) : (wsOf zs).b ≤ zs.length ∧ (wsOf zs).cs.length ≤ zs.length ∧ (wsOf zs).n = zs.length ∧ ∀ c ∈ (wsOf zs).cs, 0 ≤ c ∧ c ≤ zs.length := by
  have gen : ∀ (zs : List Nat) (u : Ws) (k : Nat), u.b ≤ k → u.cs.length ≤ k → u.n = k → (∀ c ∈ u.cs, 0 ≤ c ∧ c ≤ (k : Int)) →
      (zs.foldl Ws.step u).b ≤ k + zs.length ∧ (zs.foldl Ws.step u).cs.length ≤ k + zs.length ∧ (zs.foldl Ws.step u).n = k + zs.length ∧ ∀ c ∈ (zs.foldl Ws.step u).cs, 0 ≤ c ∧ c ≤ ((k + zs.length : Nat) : Int) := by
    intro zs
    induction zs with
    | nil => intro u k h1 h2 h3 h4; exact ⟨h1, h2, h3, h4⟩
    | cons z r ih =>
      intro u k h1 h2 h3 h4
      have e : k + (z :: r).length = (k + 1) + r.length := by simp; omega
      rw [e, List.foldl_cons]
      refine ih _ _ ?_ ?_ ?_ ?_
      · unfold Ws.step; split
        · dsimp only; omega
        · exact Nat.zero_le _
      · unfold Ws.step; split
        · dsimp only; omega
        · dsimp only; unfold bump; rw [List.length_set, List.length_append, List.length_replicate]; omega
      · unfold Ws.step; split <;> dsimp only <;> omega
      · unfold Ws.step; split
        · intro c hc; have := h4 c hc; constructor <;> omega
        · intro c hc
          dsimp only at hc
          have hx : ∀ c ∈ u.cs ++ List.replicate (u.b + 1 - u.cs.length) 0, 0 ≤ c ∧ c ≤ (k : Int) := by
            intro c hc
            rcases List.mem_append.mp hc with q | q
            · exact h4 c q
            · rw [(List.mem_replicate.mp q).2]; constructor <;> omega
          unfold bump at hc
          rcases List.mem_or_eq_of_mem_set hc with q | q
          · have := hx c q; constructor <;> omega
          · have : 0 ≤ (u.cs ++ List.replicate (u.b + 1 - u.cs.length) 0).getD u.b 0 ∧ (u.cs ++ List.replicate (u.b + 1 - u.cs.length) 0).getD u.b 0 ≤ (k : Int) := by
              have hl : u.b < (u.cs ++ List.replicate (u.b + 1 - u.cs.length) 0).length := by rw [List.length_append, List.length_replicate]; omega
              rw [List.getD_eq_getElem?_getD, List.getElem?_eq_getElem hl]
              exact hx _ (List.getElem_mem _)
            constructor <;> omega
  have := gen zs ⟨0, 0, 0, []⟩ 0 (Nat.le_refl _) (Nat.le_refl _) rfl (fun _ h => nomatch h)
  rw [Nat.zero_add] at this
  exact this

inductive InitJ (x : Addr) (lead : List Nat) (i : Nat) (g : Heap) (m' : Str → Option Value) (own' : Own) : Prop
  | mk (h0 : i ≤ lead.length) (l : Addr) (vs : List Value) (tb tn tnt : Tok) (h1 : own' = [(l, listW vs)]) (h2 : m' "self" = some (.ref x)) (h3 : m' "S" = some (.str (Str.ofString " ") 294)) (h4 : m' "T" = some (.str (Str.ofString "\t") 295)) (h5 : m' "count" = some (.ref l))
      (h6 : IntsAre vs (wsOf (lead.take i)).cs) (h7 : m' "b" = some (.int (wsOf (lead.take i)).b tb)) (h8 : m' "n" = some (.int (wsOf (lead.take i)).n tn)) (h9 : m' "nt" = some (.int (wsOf (lead.take i)).nt tnt)) : InitJ x lead i g m' own'
inductive InitQ (s₀ : Shared) (g : Heap) (env : Env) (oc : List (Str × Addr)) (x : Addr) (u : Ws) (rest : Own) (f : Flow) (s' : Shared) : Prop
  | mk (h0 : f = .next) (l : Addr) (vs : List Value) (m'' : Str → Option Value) (tb tn tnt : Tok) (h1 : m'' "self" = some (.ref x)) (h2 : m'' "S" = some (.str (Str.ofString " ") 294)) (h3 : m'' "T" = some (.str (Str.ofString "\t") 295)) (h4 : m'' "count" = some (.ref l))
      (h5 : m'' "b" = some (.int u.b tb)) (h6 : m'' "n" = some (.int (u.n + 1 : Nat) tn)) (h7 : m'' "nt" = some (.int (u.nt + 1 : Nat) tnt)) (h8 : IntsAre vs (u.cs ++ List.replicate (u.b + 1 - u.cs.length) 0))
      (h9 : St s₀ g env oc m'' ([(l, listW vs)] ++ rest) s') : InitQ s₀ g env oc x u rest f s'
set_option maxHeartbeats 2000000 in
theorem init_spec {prog : Program} {w : World} {A : Around} {s : Shared} {x dx : Addr} {lead rest : List Nat} {tv : Tok} {R' : Result → Shared → Prop} {d : Nat}
    (B : Base w s.heap) (R : Room A (d + 1)) (hBg : Base w (hideAll s.heap [dx])) (hx : s.heap.get? x = some (instObj 141 dx)) (hd : s.heap.get? dx = some emptyDict) (hxd : x ≠ dx)
    (hlead : ∀ z ∈ lead, z = 32 ∨ z = 9) (hrest : ∃ r, rest = 50 :: r) (hasc : ∀ z ∈ rest, z < 128) (hlen : lead.length ≤ 50)
    (h : ∀ s', (∃ h' tk, s' = { s with heap := h', toks := tk }) → (∀ b o, b ≠ dx → s.heap.get? b = some o → s'.heap.get? b = some o) → (∀ gn : Heap, (∀ b o, s'.heap.get? b = some o → (b = x ∨ b = dx ∨ s.heap.get? b = none) → gn.get? b = some o) → WsAt gn x (wsOf lead)) → R' (.ok (.ret .none)) s') :
    codeAny (model prog w) A (.call (.ref 96) ⟨[.ref x, .str ⟨(lead ++ rest).toArray⟩ tv], []⟩) R' s := by
  refine enterFC fnInit [("self", .ref x), ("ws", .str ⟨(lead ++ rest).toArray⟩ tv)] B R ?hcd ?hbind ?hclo ?hkinds ?hcells ?hco ?hgen ?hk ?_
  ((case hcd => rfl); (case hbind => rfl); (case hclo => rfl); (case hkinds => rfl); (case hcells => rfl); (case hco => rfl); (case hgen => rfl); (case hk => rfl))
  intro L A' s₁ R' B₁ X
  rw [bdInit.2]; dsimp only [bdInit]
  have hsub : Ext (hideAll s.heap [dx]) s.heap := fun b o e => of_hideAll _ e
  have Bg : Base w (hideAll s.heap [dx]) := hBg
  have hxg : (hideAll s.heap [dx]).get? x = some (instObj 141 dx) := hideAll_get _ hx fun hb => hxd (List.mem_singleton.mp hb)
  have X1 := ((X.shrink hsub).add_own (P := attrO (fun _ => none) 0) (X.keep _ _ hd) ⟨[], 0, rfl, Nat.le_refl _, (fun _ h => nomatch h), fun _ => rfl⟩ (hideAll_none _ (.head _)) (fun q => by have := X.gL; rw [← q, hd] at this; cases this) (fun n c e q => by have := (X.gC n c e).1; rw [← q, hd] at this; cases this) (fun _ h => nomatch h))
  clear X
  walk_at "st"
  refine plainObj_wpAny_Assign_Attribute ?_ rfl
  (repeat (walk_at "st"))
  refine setattr_own (pre := []) (post := []) X1 B₁ (X1.keep _ _ hxg) rfl (by decide) fun s₂ X2 => ?_
  have B₂ := Bg.keeps X2.keep
  dsimp only
  walk_at "st"
  refine pair_swap ?_ rfl rfl rfl rfl rfl
  refine tuple_disp ?_
  walk_at "st"
  refine Attribute_name ?_
  walk_at "st"
  (refine' getattr_cls ?hBz12 ?_ ?hrz12 ?hez12 ?hhz12; (case hBz12 => assumption); (case hez12 => with_unfolding_all rfl); (case hrz12 => rfl); (case hhz12 => rfl))
  dsimp only
  (repeat (walk_at "st"))
  refine Attribute_name ?_
  walk_at "st"
  (refine' getattr_cls ?hBz13 ?_ ?hrz13 ?hez13 ?hhz13; (case hBz13 => assumption); (case hez13 => with_unfolding_all rfl); (case hrz13 => rfl); (case hhz13 => rfl))
  (repeat (walk_at "st"))
  refine ⟨sz_of (show 2 ≤ 1000 by decide), fun l3 s₃ k₃ hn3 ht3 => ?_⟩
  dsimp only at ht3
  refine ⟨_, _, _, _, _, _, _, _, _, rfl, R'.hh, X2, Keeps.trans ⟨_, _, rfl, fun _ _ e => e⟩ k₃, ht3, fun s₄ X4 => ?_, rfl, rfl⟩
  (repeat (walk_at "st"))
  refine list_disp ?_
  (repeat (walk_at "st"))
  refine ⟨Nat.zero_le _, fun l5 s₅ k₅ hl5 hp5 => ?_⟩
  have X5 := X4.push_list hl5 k₅ hp5
  (first | (refine' put_l ?xz14 ?kz14 ?_ ?hlz14 ?hkz14 ?hocz14; (case xz14 => assumption); (case hlz14 => rfl); (case hocz14 => rfl); (case hkz14 => rfl); (case kz14 => walk_at "kp")) | (refine' put_c ?xz14 ?kz14 ?_ ?hlz14 ?hkz14 ?hocz14 ?hez14; (case xz14 => assumption); (case hlz14 => rfl); (case hocz14 => rfl); (case hez14 => rfl); (case hkz14 => rfl); (case kz14 => walk_at "kp")))
  intro s₆ X6
  dsimp only
  walk_at "st"
  refine wpAny_Assign_three ?_ rfl rfl
  (repeat (walk_at "st"))
  refine assign_Name ?_
  (first | (refine' put_l ?xz15 ?kz15 ?_ ?hlz15 ?hkz15 ?hocz15; (case xz15 => assumption); (case hlz15 => rfl); (case hocz15 => rfl); (case hkz15 => rfl); (case kz15 => walk_at "kp")) | (refine' put_c ?xz15 ?kz15 ?_ ?hlz15 ?hkz15 ?hocz15 ?hez15; (case xz15 => assumption); (case hlz15 => rfl); (case hocz15 => rfl); (case hez15 => rfl); (case hkz15 => rfl); (case kz15 => walk_at "kp")))
  intro s₇ X7
  refine assign_Name ?_
  (first | (refine' put_l ?xz16 ?kz16 ?_ ?hlz16 ?hkz16 ?hocz16; (case xz16 => assumption); (case hlz16 => rfl); (case hocz16 => rfl); (case hkz16 => rfl); (case kz16 => walk_at "kp")) | (refine' put_c ?xz16 ?kz16 ?_ ?hlz16 ?hkz16 ?hocz16 ?hez16; (case xz16 => assumption); (case hlz16 => rfl); (case hocz16 => rfl); (case hez16 => rfl); (case hkz16 => rfl); (case kz16 => walk_at "kp")))
  intro s₈ X8
  refine assign_Name ?_
  (first | (refine' put_l ?xz17 ?kz17 ?_ ?hlz17 ?hkz17 ?hocz17; (case xz17 => assumption); (case hlz17 => rfl); (case hocz17 => rfl); (case hkz17 => rfl); (case kz17 => walk_at "kp")) | (refine' put_c ?xz17 ?kz17 ?_ ?hlz17 ?hkz17 ?hocz17 ?hez17; (case xz17 => assumption); (case hlz17 => rfl); (case hocz17 => rfl); (case hez17 => rfl); (case hkz17 => rfl); (case kz17 => walk_at "kp")))
  intro s₉ X9
  dsimp only
  clear X1 X2 X4 X5 X6 X7 X8
  walk_at "st"
  (refine for_mk ?_ ?hkz18 ?hsz18 ?hEz18; (case hkz18 => rfl); (case hsz18 => intro _; rfl); (case hEz18 => exact PassesOwn.never))
  refine Attribute_name ?_
  walk_at "st"
  have B₉ := Bg.keeps X9.keep
  refine getattr_inst B₉ (X9.inst (dx := dx) (.tail _ (.head _)) (X9.keep _ _ hxg)) (by walk_at "mv") rfl ?_ rfl
  have Xa := (X9.weak_head (P' := listW []) (fun o => listW_of)).keeps (s' := { s₉ with toks := s₉.toks + 1 }) ⟨_, _, rfl, fun _ _ e => e⟩
  clear X9
  have hall : ∀ z ∈ lead ++ rest, z < 128 := by
    intro z hz
    rcases List.mem_append.mp hz with hz | hz
    · rcases hlead z hz with rfl | rfl <;> decide
    · exact hasc z hz
  refine ⟨_, _, _, _, [(l5, listW [])], [(dx, attrO (upd (fun x => none) (Str.ofString "raw") (Value.str { cps := (lead ++ rest).toArray } tv)) (0 + 1))], _, _, _,
    InitJ x lead, Xa,
    (iterS_str R'.hh ?_).cast (by simp : _ = (lead ++ rest).length), by simp, by (exact .inl ⟨rfl, hoc_of rfl⟩),
    ⟨Nat.zero_le _, l5, [], _, _, _, rfl, by walk_at "mv", by walk_at "mv", by walk_at "mv", by walk_at "mv", .nil, by walk_at "mv", by walk_at "mv", by walk_at "mv"⟩, ?_, ?_⟩
  · simp; exact ⟨fun z hz => hall z (List.mem_append_left _ hz), fun z hz => hall z (List.mem_append_right _ hz)⟩
  · intro i g' m' own' v I oI s₁₀ hi hg hJ hP X10
    obtain ⟨hile, l, vs, tb, tn, tnt, rfl, e1, e2, e3, e4, e5, e6, e7, e8⟩ := hJ
    obtain ⟨c, uc, hcu, rfl⟩ := hP
    have hcz : (lead ++ rest)[i]? = some c := by simpa using hcu
    refine hideQ fun Q1 hQ1 => ?_
    (repeat (walk_at "st"))
    refine eq_str ?_
    walk_at "st"
    rw [sign_eq]
    have hlc : i < lead.length → lead[i]? = some c := fun q => by rw [← hcz, List.getElem?_append_left q]
    by_cases c32 : c = 32
    · have hil : i < lead.length := by
        rcases Nat.lt_or_ge i lead.length with q | q
        · exact q
        · obtain ⟨r, rfl⟩ := hrest
          rw [show i = lead.length by omega, List.getElem?_append_right (Nat.le_refl _)] at hcz
          simp at hcz; omega
      rw [if_pos (by simpa using c32)]
      (repeat (walk_at "st"))
      (first | (refine' put_l ?xz19 ?kz19 ?_ ?hlz19 ?hkz19 ?hocz19; (case xz19 => assumption); (case hlz19 => rfl); (case hocz19 => rfl); (case hkz19 => rfl); (case kz19 => walk_at "kp")) | (refine' put_c ?xz19 ?kz19 ?_ ?hlz19 ?hkz19 ?hocz19 ?hez19; (case xz19 => assumption); (case hlz19 => rfl); (case hocz19 => rfl); (case hez19 => rfl); (case hkz19 => rfl); (case kz19 => walk_at "kp")))
      intro s₁₁ X11
      dsimp only
      (repeat (walk_at "st"))
      (first | (refine' put_l ?xz20 ?kz20 ?_ ?hlz20 ?hkz20 ?hocz20; (case xz20 => assumption); (case hlz20 => rfl); (case hocz20 => rfl); (case hkz20 => rfl); (case kz20 => walk_at "kp")) | (refine' put_c ?xz20 ?kz20 ?_ ?hlz20 ?hkz20 ?hocz20 ?hez20; (case xz20 => assumption); (case hlz20 => rfl); (case hocz20 => rfl); (case hez20 => rfl); (case hkz20 => rfl); (case kz20 => walk_at "kp")))
      intro s₁₂ X12
      dsimp only
      (repeat (walk_at "st"))
      have ew : wsOf (lead.take (i + 1)) = { wsOf (lead.take i) with n := (wsOf (lead.take i)).n + 1, b := (wsOf (lead.take i)).b + 1 } := by
        rw [take_snoc (hlc hil)]; unfold wsOf; rw [List.foldl_append]; show Ws.step _ c = _; unfold Ws.step; rw [if_pos c32]
      refine hQ1 _ _ ?_
      refine ⟨_, _, [(l, listW vs)], Ext.refl _, ⟨hil, l, vs, _, _, tnt, rfl, by walk_at "mv", by walk_at "mv", by walk_at "mv", by walk_at "mv", by rw [ew]; exact e5, by rw [ew]; walk_at "mv", by rw [ew]; walk_at "mv", by rw [ew]; walk_at "mv"⟩, X12⟩
    rw [if_neg (by simpa using c32)]
    (repeat (walk_at "st"))
    refine eq_str ?_
    walk_at "st"
    rw [tab_eq]
    by_cases c9 : c = 9
    · have hil : i < lead.length := by
        rcases Nat.lt_or_ge i lead.length with q | q
        · exact q
        · obtain ⟨r, rfl⟩ := hrest
          rw [show i = lead.length by omega, List.getElem?_append_right (Nat.le_refl _)] at hcz
          simp at hcz; omega
      rw [if_pos (by simpa using c9)]
      (repeat (walk_at "st"))
      (first | (refine' put_l ?xz21 ?kz21 ?_ ?hlz21 ?hkz21 ?hocz21; (case xz21 => assumption); (case hlz21 => rfl); (case hocz21 => rfl); (case hkz21 => rfl); (case kz21 => walk_at "kp")) | (refine' put_c ?xz21 ?kz21 ?_ ?hlz21 ?hkz21 ?hocz21 ?hez21; (case xz21 => assumption); (case hlz21 => rfl); (case hocz21 => rfl); (case hez21 => rfl); (case hkz21 => rfl); (case kz21 => walk_at "kp")))
      intro s₁₁ X11
      dsimp only
      (repeat (walk_at "st"))
      (first | (refine' put_l ?xz22 ?kz22 ?_ ?hlz22 ?hkz22 ?hocz22; (case xz22 => assumption); (case hlz22 => rfl); (case hocz22 => rfl); (case hkz22 => rfl); (case kz22 => walk_at "kp")) | (refine' put_c ?xz22 ?kz22 ?_ ?hlz22 ?hkz22 ?hocz22 ?hez22; (case xz22 => assumption); (case hlz22 => rfl); (case hocz22 => rfl); (case hez22 => rfl); (case hkz22 => rfl); (case kz22 => walk_at "kp")))
      intro s₁₂ X12
      dsimp only
      have B12 := Bg.keeps (hg.trans X12.keep)
      have ew : wsOf (lead.take (i + 1)) = ⟨(wsOf (lead.take i)).n + 1, (wsOf (lead.take i)).nt + 1, 0, bump (wsOf (lead.take i)).cs (wsOf (lead.take i)).b⟩ := by
        rw [take_snoc (hlc hil)]; unfold wsOf; rw [List.foldl_append]; show Ws.step _ c = _; unfold Ws.step; rw [if_neg c32]
      have hbs := ws_small (lead.take i)
      have hli : (lead.take i).length ≤ 50 := by rw [List.length_take]; omega
      generalize wsOf (lead.take i) = u at *
      have hvl := e5.length
      walk_at "st"
      refine wpAny_mono (Q := InitQ s g' (fEnv w fnInit L) (fEnv w fnInit L).cells x u ((I, (· = oI)) :: [(dx, attrO (upd (fun x => none) (Str.ofString "raw") (Value.str { cps := (lead ++ rest).toArray } tv)) (0 + 1))])) ?_ (fun f s₁₃ hq => ?_) (fun _ _ e => e)
      · (repeat (walk_at "st"))
        refine len_k (X12.own_listW (Keeps.refl _) (.head _)) (by rw [hvl, sizeLine_eq]; omega) fun t13 s₁₃ k13 e13 => ?_
        have X13 := X12.keeps k13
        have B13 := Bg.keeps (hg.trans X13.keep)
        (repeat (walk_at "st"))
        by_cases cb : u.b ≥ vs.length
        · rw [if_pos (by simpa using cb)]
          (repeat (walk_at "st"))
          refine list_disp ?_
          (repeat (walk_at "st"))
          refine ⟨sz_of (show 1 ≤ 1000 by decide), fun l14 s₁₄ k14 hn14 hp14 => ?_⟩
          have X14 := X13.keeps (Keeps.trans ⟨_, _, rfl, fun _ _ e => e⟩ k14)
          have B14 := Bg.keeps (hg.trans X14.keep)
          (repeat (walk_at "st"))
          refine len_k (X14.own_listW (Keeps.refl _) (.head _)) (by rw [hvl, sizeLine_eq]; omega) fun t15 s₁₅ k15 e15 => ?_
          have X15 := X14.keeps k15
          (repeat (walk_at "st"))
          refine mul_k (by rw [e15]; exact hp14) (by omega) (by omega) (by simp; omega) fun D16 s₁₆ k16 hn16 hp16 => ?_
          have X16 := X15.keeps (Keeps.trans ⟨_, _, rfl, fun _ _ e => e⟩ k16)
          refine add_k (X16.own_listW (Keeps.refl _) (.head _)) hp16.isList (by simp; rw [sizeLine_eq]; omega) fun D17 s₁₇ k17 hn17 hp17 => ?_
          have X17 := X16.push_list hn17 k17 hp17
          (first | (refine' put_l ?xz23 ?kz23 ?_ ?hlz23 ?hkz23 ?hocz23; (case xz23 => assumption); (case hlz23 => rfl); (case hocz23 => rfl); (case hkz23 => rfl); (case kz23 => walk_at "kp")) | (refine' put_c ?xz23 ?kz23 ?_ ?hlz23 ?hkz23 ?hocz23 ?hez23; (case xz23 => assumption); (case hlz23 => rfl); (case hocz23 => rfl); (case hez23 => rfl); (case hkz23 => rfl); (case kz23 => walk_at "kp")))
          intro s₁₈ X18
          dsimp only
          (repeat (walk_at "st"))
          have X19 := (X18.weak_head (P' := listW _) (fun o => listW_of)).drop_own (own' := [(D17, listW _)] ++ (I, (· = oI)) :: [(dx, attrO (upd (fun x => none) (Str.ofString "raw") (Value.str { cps := (lead ++ rest).toArray } tv)) (0 + 1))]) (by
            refine List.Sublist.cons_cons _ ?_
            exact List.sublist_cons_self _ _)
          exact ⟨rfl, D17, _, _, _, _, _, by walk_at "mv", by walk_at "mv", by walk_at "mv", by walk_at "mv", by walk_at "mv", by walk_at "mv", by walk_at "mv",
            IntsAre.append e5 (by rw [show ((u.b : Int) - (vs.length : Int) + 1).toNat = u.b + 1 - u.cs.length by omega]; exact ints_rep _ _), X19⟩
        · rw [if_neg (by simpa using cb)]
          (repeat (walk_at "st"))
          exact ⟨rfl, l, vs, _, _, _, _, by walk_at "mv", by walk_at "mv", by walk_at "mv", by walk_at "mv", by walk_at "mv", by walk_at "mv", by walk_at "mv", by rw [show u.b + 1 - u.cs.length = 0 by omega]; simpa using e5, X13⟩
      · obtain ⟨rfl, l', vs', m'', tb', tn', tnt', f1, f2, f3, f4, f5, f6, f7, f8, X13⟩ := hq
        dsimp only
        have hv8 := f8.length
        rw [List.length_append, List.length_replicate] at hv8
        walk_at "st"
        refine wpAny_Assign_Subscript ?_ rfl
        (repeat (walk_at "st"))
        obtain ⟨tc, ec⟩ := IntsAre.get' f8 (get_lk (d := 0) (i := u.b) (by rw [List.length_append, List.length_replicate]; omega))
        refine item_n (X13.own_listW (Keeps.refl _) (.head _)) (by omega) ec ?_ rfl
        (repeat (walk_at "st"))
        refine set_item_own (pre := []) X13 ⟨_, _, rfl, fun _ _ e => e⟩ (by omega) (by rw [Int.toNat_natCast]; omega) (by omega) fun s₁₄ X14 => ?_
        dsimp only
        (repeat (walk_at "st"))
        (first | (refine' put_l ?xz24 ?kz24 ?_ ?hlz24 ?hkz24 ?hocz24; (case xz24 => assumption); (case hlz24 => rfl); (case hocz24 => rfl); (case hkz24 => rfl); (case kz24 => walk_at "kp")) | (refine' put_c ?xz24 ?kz24 ?_ ?hlz24 ?hkz24 ?hocz24 ?hez24; (case xz24 => assumption); (case hlz24 => rfl); (case hocz24 => rfl); (case hez24 => rfl); (case hkz24 => rfl); (case kz24 => walk_at "kp")))
        intro s₁₅ X15
        dsimp only
        (repeat (walk_at "st"))
        rw [Int.toNat_natCast] at X15
        refine hQ1 _ _ ?_
        refine ⟨_, _, [(l', listW _)], Ext.refl _, ⟨hil, l', _, _, _, _, rfl, by walk_at "mv", by walk_at "mv", by walk_at "mv", by walk_at "mv", ?_, by rw [ew]; walk_at "mv", by rw [ew]; walk_at "mv", by rw [ew]; walk_at "mv"⟩, X15⟩
        rw [ew]
        exact ints_set f8 _ _ _
    · rw [if_neg (by simpa using c9)]
      have hil : i = lead.length := by
        rcases Nat.lt_or_ge i lead.length with q | q
        · rcases hlead c (List.mem_of_getElem? (hlc q)) with z | z
          · exact absurd z c32
          · exact absurd z c9
        · omega
      rw [hil, List.take_length] at e5 e6 e7 e8
      have hbs := ws_small lead
      generalize wsOf lead = u at *
      have hvl := e5.length
      (repeat (walk_at "st"))
      refine hQ1 _ _ ?_
      try dsimp only
      (repeat (walk_at "st"))
      refine plainObj_wpAny_Assign_Attribute ?_ rfl
      (repeat (walk_at "st"))
      refine setattr_own (pre := [(l, listW vs), (I, (· = oI))]) (post := []) X10 (Bg.keeps (hg.trans X10.keep)) (X10.keep _ _ (hg _ _ hxg)) rfl (by decide) fun s₁₁ X11 => ?_
      dsimp only
      walk_at "st"
      refine plainObj_wpAny_Assign_Attribute ?_ rfl
      (repeat (walk_at "st"))
      refine setattr_own (pre := [(l, listW vs), (I, (· = oI))]) (post := []) X11 (Bg.keeps (hg.trans X11.keep)) (X11.keep _ _ (hg _ _ hxg)) rfl (by decide) fun s₁₂ X12 => ?_
      dsimp only
      have B12 := Bg.keeps (hg.trans X12.keep)
      walk_at "st"
      refine plainObj_wpAny_Assign_Attribute ?_ rfl
      refine tuple_disp ?_
      (repeat (walk_at "st"))
      refine tuple_k (X12.own_listW (Keeps.refl _) (.head _)) (by rw [hvl, sizeLine_eq]; omega) fun D13 s₁₃ k13 hn13 ht13 => ?_
      have X13 := X12.push_tup hn13 k13 ht13
      have B13 := Bg.keeps (hg.trans X13.keep)
      (repeat (walk_at "st"))
      refine ⟨sz_of (show 2 ≤ 1000 by decide), fun D14 s₁₄ k14 hn14 ht14 => ?_⟩
      have X14 := X13.push_tup hn14 k14 ht14
      have B14 := Bg.keeps (hg.trans X14.keep)
      (repeat (walk_at "st"))
      refine setattr_own (pre := [(D14, tupO [.ref D13, _]), (D13, tupO vs), (l, listW vs), (I, (· = oI))]) (post := []) X14 B14 (X14.keep _ _ (hg _ _ hxg)) rfl (by decide) fun s₁₅ X15 => ?_
      have B15 := Bg.keeps (hg.trans X15.keep)
      dsimp only
      walk_at "st"
      refine plainObj_wpAny_Assign_Attribute ?_ rfl
      (repeat (walk_at "st"))
      refine len_k (X15.own_listW (Keeps.refl _) (.tail _ (.tail _ (.head _)))) (by rw [hvl, sizeLine_eq]; omega) fun t16 s₁₆ k16 e16 => ?_
      have X16 := X15.keeps (Keeps.trans k16 (b := s₁₆) (c := { s₁₆ with toks := s₁₆.toks + 1 }) ⟨_, _, rfl, fun _ _ e => e⟩)
      (repeat (walk_at "st"))
      refine setattr_own (pre := [(D14, tupO [.ref D13, _]), (D13, tupO vs), (l, listW vs), (I, (· = oI))]) (post := []) X16 (Bg.keeps (hg.trans X16.keep)) (X16.keep _ _ (hg _ _ hxg)) rfl (by decide) fun s₁₇ X17 => ?_
      dsimp only
      (repeat (walk_at "st"))
      have sold : ∀ b, s₁₂.heap.get? b = none → b = x ∨ b = dx ∨ s.heap.get? b = none := by
        intro b hb
        by_cases hbd : b = dx
        · exact .inr (.inl hbd)
        · refine .inr (.inr ?_)
          cases e : s.heap.get? b with
          | none => rfl
          | some o => rw [X12.keep b o (hg b o (hideAll_get _ e fun q => hbd (List.mem_singleton.mp q)))] at hb; cases hb
      have hn14' : s₁₂.heap.get? D14 = none := by
        cases e : s₁₂.heap.get? D14 with
        | none => rfl
        | some o => rw [(Keeps.ext k13) _ _ e] at hn14; cases hn14
      refine h _ X17.same (fun b o hb e => X17.keep b o (hg b o (hideAll_get _ e fun q => hb (List.mem_singleton.mp q)))) fun gn hgn => ?_
      have ix := X17.keep _ _ (hg _ _ hxg)
      obtain ⟨od, eod, qod⟩ := X17.mine (dx, _) (List.mem_append_right _ (.head _))
      obtain ⟨o14, e14, q14⟩ := X17.mine (D14, _) (.head _)
      obtain ⟨o13, e13, q13⟩ := X17.mine (D13, _) (.tail _ (.head _))
      refine ⟨_, _, _, _, D14, D13, vs, ⟨dx, od, _, hgn _ _ ix (.inl rfl), hgn _ _ eod (.inr (.inl rfl)), qod⟩, by walk_at "mv", by walk_at "mv", by walk_at "mv",
        isTuple_of (hgn _ _ e14 (sold _ hn14')) q14, isTuple_of (hgn _ _ e13 (sold _ hn13)) q13, e5, ?_, by walk_at "mv", by walk_at "mv", by walk_at "mv", by walk_at "mv"⟩
      rw [upd_eq, hvl]
      congr 2
      simp
      omega
  · intro g' m' own' s₁₀ hg hJ X10
    obtain ⟨r, rfl⟩ := hrest
    have := (by obtain ⟨q, _⟩ := hJ; exact q : _ ≤ lead.length)
    exact absurd this (by simp)
/-! part G8 -/
theorem weight_make (rest : List Value) (kw : List (Str × Value)) : (Code.builtin "type.__call__" ⟨.ref 141 :: rest, kw⟩).weight = 1 := by kernel_rfl
theorem units_make (rest : List Value) (kw : List (Str × Value)) : (Code.builtin "type.__call__" ⟨.ref 141 :: rest, kw⟩).cUnits = 1 := by kernel_rfl
theorem Room.under1 {A : Around} {d : Nat} (R : Room A (d + 1)) (rest : List Value) (kw : List (Str × Value)) : Room (A.under (.builtin "type.__call__" ⟨.ref 141 :: rest, kw⟩)) d :=
  ⟨R.hh, by have := R.depth; show A.depth + (Code.builtin "type.__call__" _).weight + d < _; rw [weight_make]; omega, by have := R.units; show A.units + (Code.builtin "type.__call__" _).cUnits + 20 * d + 100 < _; rw [units_make]; omega⟩

theorem ws_spec {prog : Program} {w : World} {A : Around} {E : Value → Shared → Prop} {s : Shared} {lead rest : List Nat} {tv : Tok} {Q : Value → Shared → Prop} {d : Nat}
    (B : Base w s.heap) (R : Room A (d + 2))
    (hlead : ∀ z ∈ lead, z = 32 ∨ z = 9) (hrest : ∃ r, rest = 50 :: r) (hasc : ∀ z ∈ rest, z < 128) (hlen : lead.length ≤ 50)
    (h : ∀ x s', Keeps s s' → s.heap.get? x = none → (∀ gn, NewIn s.heap s'.heap gn → WsAt gn x (wsOf lead)) → Q (.ref x) s') : wpAny (model prog w) A (call (.ref 141) [.str ⟨(lead ++ rest).toArray⟩ tv]) Q E s := by
  refine wpAny_call ?_
  obtain ⟨h0, g0, d0, t0, os0⟩ := s
  refine make_core (init := .ref 96) (makes_of B.K rfl) (looks_findIn B.K rfl) (fun self => bind_fn B.K self rfl) (.inl rfl) ?_
  have k : Ext h0 ((h0.push emptyDict).push (instObj 141 h0.objs.size)) := fun b o e => Heap.get?_push_of_some _ (Heap.get?_push_of_some _ e)
  have kh : Ext h0 (hideAll ((h0.push emptyDict).push (instObj 141 h0.objs.size)) [h0.objs.size]) := fun b o e => hideAll_get _ (k b o e) fun q => Nat.ne_of_lt (Heap.lt_size e) (List.mem_singleton.mp q)
  refine init_spec (s := ⟨(h0.push emptyDict).push (instObj 141 h0.objs.size), g0, d0, t0, os0⟩) (x := h0.objs.size + 1) (dx := h0.objs.size) (d := d) (B.keeps k) (R.under1 _ _) (B.keeps kh) ?_ ?_ (Nat.succ_ne_self _) hlead hrest hasc hlen ?_
  · have := Heap.get?_push_size (h0.push emptyDict) (o := instObj 141 h0.objs.size) rfl
    rw [Heap.size_push] at this
    exact this
  · exact Heap.get?_push_of_some _ (Heap.get?_push_size _ rfl)
  · intro s' hs hk hw
    refine ⟨rfl, ?_⟩
    obtain ⟨h', tk, rfl⟩ := hs
    refine h _ _ ⟨h', tk, rfl, fun b o e => hk b o (Nat.ne_of_lt (Heap.lt_size e)) (k b o e)⟩ (fresh_ge (Nat.le_succ _)) fun gn hgn => hw gn fun b o e q => hgn b o e ?_
    rcases q with rfl | rfl | q
    · exact fresh_ge (Nat.le_succ _)
    · exact fresh_ge (Nat.le_refl _)
    · cases e0 : h0.get? b with
      | none => rfl
      | some o0 => rw [k b o0 e0] at q; cases q
/-! part G9 -/
noncomputable def digs (d : Nat) : List Nat := if d < 10 then [48 + d] else if d < 100 then [48 + d / 10, 48 + d % 10] else [48 + d / 100, 48 + d / 10 % 10, 48 + d % 10]
noncomputable def repD (mk d : Nat) : List Nat := [50, 50, 57, 32, 40, mk, mk, mk] ++ digs d ++ [mk, 41]
noncomputable def rep (mk d : Nat) : Str := ⟨(repD mk d).toArray⟩
section
open Builtin Builtin.Str
noncomputable def rightOf (mk d : Nat) : Int := Txt.find3 (rep mk d) (Str.ofString ")") 5
noncomputable def midOf (mk d : Nat) : Str := Txt.slice (rep mk d) (some 5) (some (rightOf mk d))
noncomputable def sepOf (mk d : Nat) : Str := Txt.item (rep mk d) 5
noncomputable def marksOf : List Nat := [124, 33, 35, 120]
theorem close_one : Str.ofString ")" = ⟨#[41]⟩ := by decide
theorem open_one : Str.ofString "(" = ⟨#[40]⟩ := by decide
noncomputable def occF (f : Nat → Bool) (w lo hi limit : Nat) : List Nat := Id.run do
  let mut found : Array Nat := #[]
  let mut free := lo
  for i in [lo : hi + 1] do
    if found.size < limit && free ≤ i && i + w ≤ hi && f i then
      found := found.push i
      free := i + w
  return found.toList
theorem occ_F (x y : Str) (lo hi limit : Nat) : occurrences x y lo hi limit = occF (subAt x y) y.length lo hi limit := rfl
theorem sub_one {l : List Nat} {c i : Nat} (h : i < l.length) : subAt ⟨l.toArray⟩ ⟨#[c]⟩ i = decide (l.getD i 0 = c) := by
  have q := StrLaws.subAt_one (⟨l.toArray⟩ : Str) c i
  have e1 : i + (⟨#[c]⟩ : Str).length ≤ (⟨l.toArray⟩ : Str).length := by show i + 1 ≤ l.toArray.size; rw [List.size_toArray]; exact h
  rw [Bool.eq_iff_iff, decide_eq_true_eq]
  have e2 : (⟨l.toArray⟩ : Str).cps.toList[i]? = some (l.getD i 0) := get_lk h
  rw [e2] at q
  exact ⟨fun z => Option.some.inj (q.mp ⟨e1, z⟩), fun z => (q.mpr (by rw [z])).2⟩
theorem sub_out {l : List Nat} {c i : Nat} (h : l.length ≤ i) : subAt ⟨l.toArray⟩ ⟨#[c]⟩ i = false := by
  unfold subAt
  show (l.toArray.extract i (i + 1) == #[c]) = false
  have : l.toArray.extract i (i + 1) = #[] := by
    apply Array.eq_empty_of_size_eq_zero
    rw [Array.size_extract, List.size_toArray]
    omega
  rw [this]
  rfl
/-- the places of a sign, as a list of yes and no -/
theorem sub_list {l : List Nat} {c : Nat} {bs : List Bool} (h : l.map (fun z => decide (z = c)) = bs) : subAt ⟨l.toArray⟩ ⟨#[c]⟩ = fun i => bs.getD i false := by
  funext i
  subst h
  by_cases hi : i < l.length
  · rw [sub_one hi, List.getD, List.getD, List.getElem?_map, List.getElem?_eq_getElem hi]; rfl
  · rw [sub_out (Nat.le_of_not_lt hi), List.getD, List.getElem?_eq_none (by rw [List.length_map]; omega)]; rfl
theorem kind_one {l : List Nat} (h : ∀ z ∈ l, z < 256) : Builtin.Str.strKind ⟨l.toArray⟩ = 1 := by
  unfold Builtin.Str.strKind
  rw [if_pos]
  simpa using h
structure RepFacts (mk d : Nat) : Prop where
  len : (rep mk d).length ≤ 100
  len7 : 7 ≤ (rep mk d).length
  head : ((Txt.slice (rep mk d) none (some 3)).cps.toList == (Str.ofString "229").cps.toList) = true
  left : Txt.find (rep mk d) (Str.ofString "(") = 4
  r5 : 5 < rightOf mk d
  rl : rightOf mk d < (rep mk d).length
  same : ((Txt.item (rep mk d) 5).cps.toList == (Txt.item (rep mk d) (rightOf mk d - 1)).cps.toList) = true
  sep : ((sepOf mk d).length == 0) = false
  mid : (midOf mk d).length ≤ 100
  parts : (partsBetween (midOf mk d) (occurrences (midOf mk d) (sepOf mk d) 0 (midOf mk d).length ((midOf mk d).length + 1)) (sepOf mk d).length).length ≤ 100
  split : ∃ a b c p e, Txt.split (midOf mk d) (sepOf mk d) = [a, b, c, p, e] ∧ PySem.intText? p = some (d : Int) ∧ p.length ≤ 640
  asc : ∀ z ∈ repD mk d, z < 128
set_option maxHeartbeats 0 in
theorem int_ok0 : ∀ d : Fin 262, PySem.intText? ⟨(digs d.val).toArray⟩ = some ((d.val : Nat) : Int) := by decide +kernel
theorem int_ok {d : Nat} (hd : d < 262) : PySem.intText? ⟨(digs d).toArray⟩ = some (d : Int) := int_ok0 ⟨d, hd⟩

theorem occ_sym1 (m a : Nat) (ha : a ≠ m) : occurrences (⟨#[m,m,m,a,m]⟩ : Str) ⟨#[m]⟩ 0 5 6 = [0, 1, 2, 4] := by
  rw [occ_F, sub_list (l := [m,m,m,a,m]) (bs := [true, true, true, false, true]) (by simp [ha])]
  kernel_rfl
theorem right_sym1 (m a : Nat) (hm : m ≠ 41) (ha : a ≠ 41) : Txt.find3 (⟨#[50,50,57,32,40,m,m,m,a,m,41]⟩ : Str) (Str.ofString ")") 5 = 10 := by
  rw [close_one]
  unfold Txt.find3
  rw [occ_F, sub_list (l := [50,50,57,32,40,m,m,m,a,m,41]) (bs := [false, false, false, false, false, false, false, false, false, false, true]) (by simp [hm, ha])]
  kernel_rfl
theorem left_sym1 (m a : Nat) : Txt.find (⟨#[50,50,57,32,40,m,m,m,a,m,41]⟩ : Str) (Str.ofString "(") = 4 := by
  rw [open_one]
  with_unfolding_all rfl
theorem split_sym1 (m a : Nat) (ha : a ≠ m) (km : m < 128) (ka : a < 128) : Txt.split (⟨#[m,m,m,a,m]⟩ : Str) ⟨#[m]⟩ = [⟨#[]⟩, ⟨#[]⟩, ⟨#[]⟩, ⟨#[a]⟩, ⟨#[]⟩] := by
  unfold Txt.split
  have e : occurrences (⟨#[m,m,m,a,m]⟩ : Str) ⟨#[m]⟩ 0 (⟨#[m,m,m,a,m]⟩ : Str).length ((⟨#[m,m,m,a,m]⟩ : Str).length + 1) = [0, 1, 2, 4] := occ_sym1 m a ha
  have k1 : Builtin.Str.strKind ⟨#[m]⟩ = 1 := kind_one (l := [m]) (by simp; omega)
  have k2 : Builtin.Str.strKind (⟨#[m,m,m,a,m]⟩ : Str) = 1 := kind_one (l := [m, m, m, a, m]) (by simp; omega)
  rw [e, k1, k2]
  rfl
theorem facts_sym1 {mk d a : Nat} (e : digs d = [a]) (hd : d < 262) (h40 : mk ≠ 40) (h41 : mk ≠ 41) (hm : mk < 128) (da : a ≠ mk) (ia : 48 ≤ a ∧ a ≤ 57) : RepFacts mk d := by
  have er : rep mk d = ⟨#[50,50,57,32,40,mk,mk,mk,a,mk,41]⟩ := by unfold rep repD; rw [e]; rfl
  have hr : rightOf mk d = 10 := by unfold rightOf; rw [er]; exact right_sym1 mk a h41 (by omega)
  have hmid : midOf mk d = ⟨#[mk,mk,mk,a,mk]⟩ := by unfold midOf; rw [hr, er]; rfl
  have hsep : sepOf mk d = ⟨#[mk]⟩ := by unfold sepOf; rw [er]; rfl
  have hi := int_ok hd
  rw [e] at hi
  refine ⟨?_, ?_, ?_, ?_, ?_, ?_, ?_, ?_, ?_, ?_, ?_, ?_⟩
  · rw [er]; show 11 ≤ 100; decide
  · rw [er]; show 7 ≤ 11; decide
  · rw [er]; rfl
  · rw [er]; exact left_sym1 mk a
  · rw [hr]; decide
  · rw [hr, er]; show (10 : Int) < ((11 : Nat) : Int); decide
  · rw [hr, er]
    have q1 : Txt.item ⟨#[50,50,57,32,40,mk,mk,mk,a,mk,41]⟩ 5 = ⟨#[mk]⟩ := rfl
    have q2 : Txt.item ⟨#[50,50,57,32,40,mk,mk,mk,a,mk,41]⟩ (10 - 1) = ⟨#[mk]⟩ := rfl
    rw [q1, q2]
    simp
  · rw [hsep]; rfl
  · rw [hmid]; show 5 ≤ 100; decide
  · rw [hmid, hsep]
    have q : occurrences (⟨#[mk,mk,mk,a,mk]⟩ : Str) ⟨#[mk]⟩ 0 (⟨#[mk,mk,mk,a,mk]⟩ : Str).length ((⟨#[mk,mk,mk,a,mk]⟩ : Str).length + 1) = [0, 1, 2, 4] := occ_sym1 mk a da
    rw [q]; show 5 ≤ 100; decide
  · rw [hmid, hsep]
    exact ⟨_, _, _, _, _, split_sym1 mk a da hm (by omega), hi, by show 1 ≤ 640; decide⟩
  · unfold repD
    rw [e]
    simp
    omega

theorem occ_sym2 (m a b : Nat) (ha : a ≠ m) (hb : b ≠ m) : occurrences (⟨#[m,m,m,a,b,m]⟩ : Str) ⟨#[m]⟩ 0 6 7 = [0, 1, 2, 5] := by
  rw [occ_F, sub_list (l := [m,m,m,a,b,m]) (bs := [true, true, true, false, false, true]) (by simp [ha, hb])]
  kernel_rfl
theorem right_sym2 (m a b : Nat) (hm : m ≠ 41) (ha : a ≠ 41) (hb : b ≠ 41) : Txt.find3 (⟨#[50,50,57,32,40,m,m,m,a,b,m,41]⟩ : Str) (Str.ofString ")") 5 = 11 := by
  rw [close_one]
  unfold Txt.find3
  rw [occ_F, sub_list (l := [50,50,57,32,40,m,m,m,a,b,m,41]) (bs := [false, false, false, false, false, false, false, false, false, false, false, true]) (by simp [hm, ha, hb])]
  kernel_rfl
theorem left_sym2 (m a b : Nat) : Txt.find (⟨#[50,50,57,32,40,m,m,m,a,b,m,41]⟩ : Str) (Str.ofString "(") = 4 := by
  rw [open_one]
  with_unfolding_all rfl
theorem split_sym2 (m a b : Nat) (ha : a ≠ m) (hb : b ≠ m) (km : m < 128) (ka : a < 128) (kb : b < 128) : Txt.split (⟨#[m,m,m,a,b,m]⟩ : Str) ⟨#[m]⟩ = [⟨#[]⟩, ⟨#[]⟩, ⟨#[]⟩, ⟨#[a,b]⟩, ⟨#[]⟩] := by
  unfold Txt.split
  have e : occurrences (⟨#[m,m,m,a,b,m]⟩ : Str) ⟨#[m]⟩ 0 (⟨#[m,m,m,a,b,m]⟩ : Str).length ((⟨#[m,m,m,a,b,m]⟩ : Str).length + 1) = [0, 1, 2, 5] := occ_sym2 m a b ha hb
  have k1 : Builtin.Str.strKind ⟨#[m]⟩ = 1 := kind_one (l := [m]) (by simp; omega)
  have k2 : Builtin.Str.strKind (⟨#[m,m,m,a,b,m]⟩ : Str) = 1 := kind_one (l := [m, m, m, a, b, m]) (by simp; omega)
  rw [e, k1, k2]
  rfl
theorem facts_sym2 {mk d a b : Nat} (e : digs d = [a, b]) (hd : d < 262) (h40 : mk ≠ 40) (h41 : mk ≠ 41) (hm : mk < 128) (da : a ≠ mk) (db : b ≠ mk) (ia : 48 ≤ a ∧ a ≤ 57) (ib : 48 ≤ b ∧ b ≤ 57) : RepFacts mk d := by
  have er : rep mk d = ⟨#[50,50,57,32,40,mk,mk,mk,a,b,mk,41]⟩ := by unfold rep repD; rw [e]; rfl
  have hr : rightOf mk d = 11 := by unfold rightOf; rw [er]; exact right_sym2 mk a b h41 (by omega) (by omega)
  have hmid : midOf mk d = ⟨#[mk,mk,mk,a,b,mk]⟩ := by unfold midOf; rw [hr, er]; rfl
  have hsep : sepOf mk d = ⟨#[mk]⟩ := by unfold sepOf; rw [er]; rfl
  have hi := int_ok hd
  rw [e] at hi
  refine ⟨?_, ?_, ?_, ?_, ?_, ?_, ?_, ?_, ?_, ?_, ?_, ?_⟩
  · rw [er]; show 12 ≤ 100; decide
  · rw [er]; show 7 ≤ 12; decide
  · rw [er]; rfl
  · rw [er]; exact left_sym2 mk a b
  · rw [hr]; decide
  · rw [hr, er]; show (11 : Int) < ((12 : Nat) : Int); decide
  · rw [hr, er]
    have q1 : Txt.item ⟨#[50,50,57,32,40,mk,mk,mk,a,b,mk,41]⟩ 5 = ⟨#[mk]⟩ := rfl
    have q2 : Txt.item ⟨#[50,50,57,32,40,mk,mk,mk,a,b,mk,41]⟩ (11 - 1) = ⟨#[mk]⟩ := rfl
    rw [q1, q2]
    simp
  · rw [hsep]; rfl
  · rw [hmid]; show 6 ≤ 100; decide
  · rw [hmid, hsep]
    have q : occurrences (⟨#[mk,mk,mk,a,b,mk]⟩ : Str) ⟨#[mk]⟩ 0 (⟨#[mk,mk,mk,a,b,mk]⟩ : Str).length ((⟨#[mk,mk,mk,a,b,mk]⟩ : Str).length + 1) = [0, 1, 2, 5] := occ_sym2 mk a b da db
    rw [q]; show 5 ≤ 100; decide
  · rw [hmid, hsep]
    exact ⟨_, _, _, _, _, split_sym2 mk a b da db hm (by omega) (by omega), hi, by show 2 ≤ 640; decide⟩
  · unfold repD
    rw [e]
    simp
    omega

theorem occ_sym3 (m a b c : Nat) (ha : a ≠ m) (hb : b ≠ m) (hc : c ≠ m) : occurrences (⟨#[m,m,m,a,b,c,m]⟩ : Str) ⟨#[m]⟩ 0 7 8 = [0, 1, 2, 6] := by
  rw [occ_F, sub_list (l := [m,m,m,a,b,c,m]) (bs := [true, true, true, false, false, false, true]) (by simp [ha, hb, hc])]
  kernel_rfl
theorem right_sym3 (m a b c : Nat) (hm : m ≠ 41) (ha : a ≠ 41) (hb : b ≠ 41) (hc : c ≠ 41) : Txt.find3 (⟨#[50,50,57,32,40,m,m,m,a,b,c,m,41]⟩ : Str) (Str.ofString ")") 5 = 12 := by
  rw [close_one]
  unfold Txt.find3
  rw [occ_F, sub_list (l := [50,50,57,32,40,m,m,m,a,b,c,m,41]) (bs := [false, false, false, false, false, false, false, false, false, false, false, false, true]) (by simp [hm, ha, hb, hc])]
  kernel_rfl
theorem left_sym3 (m a b c : Nat) : Txt.find (⟨#[50,50,57,32,40,m,m,m,a,b,c,m,41]⟩ : Str) (Str.ofString "(") = 4 := by
  rw [open_one]
  with_unfolding_all rfl
theorem split_sym3 (m a b c : Nat) (ha : a ≠ m) (hb : b ≠ m) (hc : c ≠ m) (km : m < 128) (ka : a < 128) (kb : b < 128) (kc : c < 128) : Txt.split (⟨#[m,m,m,a,b,c,m]⟩ : Str) ⟨#[m]⟩ = [⟨#[]⟩, ⟨#[]⟩, ⟨#[]⟩, ⟨#[a,b,c]⟩, ⟨#[]⟩] := by
  unfold Txt.split
  have e : occurrences (⟨#[m,m,m,a,b,c,m]⟩ : Str) ⟨#[m]⟩ 0 (⟨#[m,m,m,a,b,c,m]⟩ : Str).length ((⟨#[m,m,m,a,b,c,m]⟩ : Str).length + 1) = [0, 1, 2, 6] := occ_sym3 m a b c ha hb hc
  have k1 : Builtin.Str.strKind ⟨#[m]⟩ = 1 := kind_one (l := [m]) (by simp; omega)
  have k2 : Builtin.Str.strKind (⟨#[m,m,m,a,b,c,m]⟩ : Str) = 1 := kind_one (l := [m, m, m, a, b, c, m]) (by simp; omega)
  rw [e, k1, k2]
  rfl
theorem facts_sym3 {mk d a b c : Nat} (e : digs d = [a, b, c]) (hd : d < 262) (h40 : mk ≠ 40) (h41 : mk ≠ 41) (hm : mk < 128) (da : a ≠ mk) (db : b ≠ mk) (dc : c ≠ mk) (ia : 48 ≤ a ∧ a ≤ 57) (ib : 48 ≤ b ∧ b ≤ 57) (ic : 48 ≤ c ∧ c ≤ 57) : RepFacts mk d := by
  have er : rep mk d = ⟨#[50,50,57,32,40,mk,mk,mk,a,b,c,mk,41]⟩ := by unfold rep repD; rw [e]; rfl
  have hr : rightOf mk d = 12 := by unfold rightOf; rw [er]; exact right_sym3 mk a b c h41 (by omega) (by omega) (by omega)
  have hmid : midOf mk d = ⟨#[mk,mk,mk,a,b,c,mk]⟩ := by unfold midOf; rw [hr, er]; rfl
  have hsep : sepOf mk d = ⟨#[mk]⟩ := by unfold sepOf; rw [er]; rfl
  have hi := int_ok hd
  rw [e] at hi
  refine ⟨?_, ?_, ?_, ?_, ?_, ?_, ?_, ?_, ?_, ?_, ?_, ?_⟩
  · rw [er]; show 13 ≤ 100; decide
  · rw [er]; show 7 ≤ 13; decide
  · rw [er]; rfl
  · rw [er]; exact left_sym3 mk a b c
  · rw [hr]; decide
  · rw [hr, er]; show (12 : Int) < ((13 : Nat) : Int); decide
  · rw [hr, er]
    have q1 : Txt.item ⟨#[50,50,57,32,40,mk,mk,mk,a,b,c,mk,41]⟩ 5 = ⟨#[mk]⟩ := rfl
    have q2 : Txt.item ⟨#[50,50,57,32,40,mk,mk,mk,a,b,c,mk,41]⟩ (12 - 1) = ⟨#[mk]⟩ := rfl
    rw [q1, q2]
    simp
  · rw [hsep]; rfl
  · rw [hmid]; show 7 ≤ 100; decide
  · rw [hmid, hsep]
    have q : occurrences (⟨#[mk,mk,mk,a,b,c,mk]⟩ : Str) ⟨#[mk]⟩ 0 (⟨#[mk,mk,mk,a,b,c,mk]⟩ : Str).length ((⟨#[mk,mk,mk,a,b,c,mk]⟩ : Str).length + 1) = [0, 1, 2, 6] := occ_sym3 mk a b c da db dc
    rw [q]; show 5 ≤ 100; decide
  · rw [hmid, hsep]
    exact ⟨_, _, _, _, _, split_sym3 mk a b c da db dc hm (by omega) (by omega) (by omega), hi, by show 3 ≤ 640; decide⟩
  · unfold repD
    rw [e]
    simp
    omega

theorem mk_ok {mk : Nat} (hm : mk ∈ marksOf) : mk ≠ 40 ∧ mk ≠ 41 ∧ mk < 128 ∧ ∀ a, 48 ≤ a ∧ a ≤ 57 → a ≠ mk := by
  have hk : (mk = 124 ∨ mk = 33 ∨ mk = 35 ∨ mk = 120) := by simpa [marksOf] using hm
  rcases hk with rfl | rfl | rfl | rfl <;> exact ⟨by decide, by decide, by decide, fun a h => by omega⟩
theorem dig_ok {a : Nat} (h : a < 10) : 48 ≤ 48 + a ∧ 48 + a ≤ 57 := ⟨Nat.le_add_right _ _, by omega⟩
theorem rep_facts {mk d : Nat} (hm : mk ∈ marksOf) (hd : d < 262) : RepFacts mk d := by
  obtain ⟨m1, m2, m3, m4⟩ := mk_ok hm
  have z : ∀ n, n % 10 < 10 := fun n => Nat.mod_lt n (by decide)
  by_cases h1 : d < 10
  · have e : digs d = [48 + d] := by unfold digs; rw [if_pos h1]
    exact facts_sym1 e hd m1 m2 m3 (m4 _ (dig_ok h1)) (dig_ok h1)
  · by_cases h2 : d < 100
    · have e : digs d = [48 + d / 10, 48 + d % 10] := by unfold digs; rw [if_neg h1, if_pos h2]
      have q : d / 10 < 10 := Nat.div_lt_of_lt_mul h2
      exact facts_sym2 e hd m1 m2 m3 (m4 _ (dig_ok q)) (m4 _ (dig_ok (z d))) (dig_ok q) (dig_ok (z d))
    · have e : digs d = [48 + d / 100, 48 + d / 10 % 10, 48 + d % 10] := by unfold digs; rw [if_neg h1, if_neg h2]
      have q : d / 100 < 10 := Nat.div_lt_of_lt_mul (Nat.lt_trans hd (by decide))
      exact facts_sym3 e hd m1 m2 m3 (m4 _ (dig_ok q)) (m4 _ (dig_ok (z _))) (m4 _ (dig_ok (z d))) (dig_ok q) (dig_ok (z _)) (dig_ok (z d))
set_option maxHeartbeats 0 in
theorem digs_str0 : ∀ d : Fin 262, Str.ofString (toString ((d.val : Nat) : Int)) = ⟨(digs d.val).toArray⟩ := by decide +kernel
theorem digs_str {d : Nat} (hd : d < 262) : Str.ofString (toString (d : Int)) = ⟨(digs d).toArray⟩ := digs_str0 ⟨d, hd⟩
end
/-! part G10 -/
section
open Builtin Builtin.Str
theorem strValues_of {l : List (Str × Tok)} {a b c p e : Str} (h : l.map (·.1) = [a, b, c, p, e]) : (strValues l).length = 5 ∧ ∃ t, (strValues l)[3]? = some (.str p t) := by
  obtain ⟨l1, h⟩ : ∃ l1, l1 = l := ⟨_, rfl⟩
  subst h
  match l1, h with
  | [(_, _), (_, _), (_, _), (p', tp), (_, _)], h =>
    simp at h
    obtain ⟨_, _, _, rfl, _⟩ := h
    exact ⟨rfl, tp, rfl⟩
theorem fits_item {x : Str} {i : Int} (h0 : 0 ≤ i) (h1 : i < x.length) (h2 : x.length ≤ 1000) : fitsSsize i = true ∧ -(x.length : Int) ≤ i := by
  constructor
  · unfold fitsSsize; simp; omega
  · omega

set_option maxHeartbeats 2000000 in
theorem parse_spec {prog : Program} {w : World} {A : Around} {E : Value → Shared → Prop} {s : Shared} {mk dd : Nat} {tv : Tok} {p : Addr} {hv pv : Value} {Q : Value → Shared → Prop} {d : Nat}
    (B : Base w s.heap) (R : Room A (d + 2)) (hm : mk ∈ marksOf) (hd : dd < 262) (hp : s.heap.IsTuple p [hv, pv].toArray)
    (h : ∀ D t s', Keeps s s' → s.heap.get? D = none → s'.heap.IsTuple D [hv, .int dd t].toArray → Q (.ref D) s') : wpAny (model prog w) A (call (.ref 79) [.str (rep mk dd) tv, .ref p]) Q E s := by
  have f := rep_facts hm hd
  refine enterF fnParse [("resp", .str (rep mk dd) tv), ("peer", .ref p)] B R ?hcd ?hbind ?hclo ?hkinds ?hcells ?hco ?hgen ?hk ?_
  ((case hcd => rfl); (case hbind => rfl); (case hclo => rfl); (case hkinds => rfl); (case hcells => rfl); (case hco => rfl); (case hgen => rfl); (case hk => rfl))
  intro L A' s₁ R' B₁ X
  rw [bdParse.2]; dsimp only [bdParse]
  (repeat (walk_at "st"))
  refine ⟨_, _, none, some (3, _), rfl, rfl, rfl, by have := f.len; omega, fun t2 s₂ k₂ => ?_⟩
  have X2 := X.keeps (Keeps.trans (keeps_tok _ _) k₂)
  (repeat (walk_at "st"))
  refine P.ne_str ?_
  dsimp only [Option.map]
  rw [show ((Txt.slice (rep mk dd) none (some 3)).cps.toList != (Str.ofString "229").cps.toList) = false by rw [bne, f.head]; rfl]
  (repeat (walk_at "st"))
  rw [if_neg (by decide)]
  (repeat (walk_at "st"))
  refine MethodCall_ ?_
  walk_at "st"
  walk1
  try dsimp only
  refine callWith_method1 ?_
  (repeat (walk_at "st"))
  refine SC.find ?_
  rw [f.left]
  (first | (refine' put_l ?xz25 ?kz25 ?_ ?hlz25 ?hkz25 ?hocz25; (case xz25 => assumption); (case hlz25 => rfl); (case hocz25 => rfl); (case hkz25 => rfl); (case kz25 => walk_at "kp")) | (refine' put_c ?xz25 ?kz25 ?_ ?hlz25 ?hkz25 ?hocz25 ?hez25; (case xz25 => assumption); (case hlz25 => rfl); (case hocz25 => rfl); (case hez25 => rfl); (case hkz25 => rfl); (case kz25 => walk_at "kp")))
  intro s₃ X3
  try dsimp only
  (repeat (walk_at "st"))
  rw [if_neg (by decide)]
  (repeat (walk_at "st"))
  refine MethodCall_ ?_
  walk_at "st"
  walk1
  try dsimp only
  refine callWith_method1 ?_
  (repeat (walk_at "st"))
  refine SC.find3 ?_
  rw [show Txt.find3 (rep mk dd) (Str.ofString ")") (4 + 1) = rightOf mk dd from rfl]
  (first | (refine' put_l ?xz26 ?kz26 ?_ ?hlz26 ?hkz26 ?hocz26; (case xz26 => assumption); (case hlz26 => rfl); (case hocz26 => rfl); (case hkz26 => rfl); (case kz26 => walk_at "kp")) | (refine' put_c ?xz26 ?kz26 ?_ ?hlz26 ?hkz26 ?hocz26 ?hez26; (case xz26 => assumption); (case hlz26 => rfl); (case hocz26 => rfl); (case hez26 => rfl); (case hkz26 => rfl); (case kz26 => walk_at "kp")))
  intro s₄ X4
  try dsimp only
  (repeat (walk_at "st"))
  have r5 := f.r5
  have rl := f.rl
  have hl := f.len
  rw [if_neg (by simp; omega)]
  (repeat (walk_at "st"))
  have i1 := fits_item (x := rep mk dd) (i := 4 + 1) (by omega) (by omega) (by omega)
  refine item_str i1.1 i1.2 (by omega) (fun t5 => ?_)
  (repeat (walk_at "st"))
  have i2 := fits_item (x := rep mk dd) (i := rightOf mk dd - 1) (by omega) (by omega) (by omega)
  refine item_str i2.1 i2.2 (by omega) (fun t6 => ?_)
  (repeat (walk_at "st"))
  refine P.ne_str ?_
  rw [show ((Txt.item (rep mk dd) (4 + 1)).cps.toList != (Txt.item (rep mk dd) (rightOf mk dd - 1)).cps.toList) = false by rw [bne, show (4 + 1 : Int) = 5 from rfl, f.same]; rfl]
  (repeat (walk_at "st"))
  rw [if_neg (by decide)]
  (repeat (walk_at "st"))
  refine MethodCall_ ?_
  (repeat (walk_at "st"))
  refine ⟨_, _, some (4 + 1, _), some (rightOf mk dd, _), rfl, rfl, rfl, by omega, fun t7 s₇ k₇ => ?_⟩
  have X7 := X4.keeps (Keeps.trans (keeps_tok _ _) k₇)
  dsimp only [Option.map]
  rw [show Txt.slice (rep mk dd) (some (4 + 1)) (some (rightOf mk dd)) = midOf mk dd from rfl]
  walk1
  try dsimp only
  refine callWith_method1 ?_
  (repeat (walk_at "st"))
  refine item_str i1.1 i1.2 (by omega) (fun t8 => ?_)
  (repeat (walk_at "st"))
  obtain ⟨pa, pb, pc, pd, pe, hspl, hint, hlen5⟩ := f.split
  refine split_k f.sep (by have := f.mid; omega) (by have := f.parts; rw [sizeLine_eq]; exact Nat.le_trans this (by omega)) fun D9 l9 s₉ hl9 k₉ hd9 => ?_
  have X9 := X7.keeps (Keeps.trans (keeps_tok _ _) k₉)
  obtain ⟨hlen9, t9, h9⟩ := strValues_of (hl9.trans hspl)
  have hDL : D9 ≠ (fEnv w fnParse L).locals := by
    intro q
    obtain ⟨ml, ⟨o, es, ep, e, hdd, _⟩, _⟩ := X9.ns
    obtain ⟨o', e', hc', n', hd'⟩ := hd9
    rw [q] at e'
    have := e.symm.trans e'
    cases this
    rw [hdd] at hd'; cases hd'
  obtain ⟨g9, hg9, X9', up9⟩ := X9.ground
  have hg9D : g9.IsList D9 (strValues l9).toArray := by
    obtain ⟨o', e', hr⟩ := hd9
    exact ⟨o', up9 _ _ e' hDL (fun n c e => by cases e) (fun _ h => nomatch h), hr⟩
  (first | (refine' put_l ?xz27 ?kz27 ?_ ?hlz27 ?hkz27 ?hocz27; (case xz27 => assumption); (case hlz27 => rfl); (case hocz27 => rfl); (case hkz27 => rfl); (case kz27 => walk_at "kp")) | (refine' put_c ?xz27 ?kz27 ?_ ?hlz27 ?hkz27 ?hocz27 ?hez27; (case xz27 => assumption); (case hlz27 => rfl); (case hocz27 => rfl); (case hez27 => rfl); (case hkz27 => rfl); (case kz27 => walk_at "kp")))
  intro s₁₀ X10
  try dsimp only
  have B10 := B.keeps (hg9.trans X10.keep)
  (repeat (walk_at "st"))
  refine len_k (isList_keeps hg9D X10.keep) (by rw [hlen9, sizeLine_eq]; decide) fun t11 s₁₁ k₁₁ e₁₁ => ?_
  rw [hlen9]
  have X11 := X10.keeps k₁₁
  have B11 := B.keeps (hg9.trans X11.keep)
  (repeat (walk_at "st"))
  rw [if_neg (by decide)]
  (repeat (walk_at "st"))
  refine item_t (isTuple_keeps hp (hg9.trans X11.keep)) (by decide) (by decide) rfl ?_ rfl
  (first | (refine' put_l ?xz28 ?kz28 ?_ ?hlz28 ?hkz28 ?hocz28; (case xz28 => assumption); (case hlz28 => rfl); (case hocz28 => rfl); (case hkz28 => rfl); (case kz28 => walk_at "kp")) | (refine' put_c ?xz28 ?kz28 ?_ ?hlz28 ?hkz28 ?hocz28 ?hez28; (case xz28 => assumption); (case hlz28 => rfl); (case hocz28 => rfl); (case hez28 => rfl); (case hkz28 => rfl); (case kz28 => walk_at "kp")))
  intro s₁₂ X12
  try dsimp only
  have B12 := B.keeps (hg9.trans X12.keep)
  (repeat (walk_at "st"))
  refine item_l (isList_keeps hg9D X12.keep) (by decide) (by decide) h9 ?_ rfl
  (repeat (walk_at "st"))
  refine KIN.call_text hint hlen5 ?_
  (first | (refine' put_l ?xz29 ?kz29 ?_ ?hlz29 ?hkz29 ?hocz29; (case xz29 => assumption); (case hlz29 => rfl); (case hocz29 => rfl); (case hkz29 => rfl); (case kz29 => walk_at "kp")) | (refine' put_c ?xz29 ?kz29 ?_ ?hlz29 ?hkz29 ?hocz29 ?hez29; (case xz29 => assumption); (case hlz29 => rfl); (case hocz29 => rfl); (case hez29 => rfl); (case hkz29 => rfl); (case kz29 => walk_at "kp")))
  intro s₁₃ X13
  try dsimp only
  walk_at "st"
  walk_at "st"
  refine tuple_disp ?_
  (repeat (walk_at "st"))
  refine ⟨sz_of (show 2 ≤ 1000 by decide), fun D14 s₁₄ k₁₄ hn₁₄ ht₁₄ => ?_⟩
  refine h D14 _ s₁₄ (Keeps.trans (X13.done hg9) k₁₄) ?_ ht₁₄
  cases e : s.heap.get? D14 with
  | none => rfl
  | some o => rw [X13.keep _ _ (hg9 _ _ e)] at hn₁₄; cases hn₁₄
end
/-! part G11 -/
def RowsAt (h : Heap) (rows : List Value) (cs : List (List Int)) : Prop := ∀ (i : Nat) (c : List Int), cs[i]? = some c → ∃ (l : Addr) (vs : List Value), rows[i]? = some (Value.ref l) ∧ h.IsList l vs.toArray ∧ IntsAre vs c
theorem RowsAt.keeps {h h' : Heap} {rows : List Value} {cs : List (List Int)} (x : RowsAt h rows cs) (k : Ext h h') : RowsAt h' rows cs := fun i c e => let ⟨l, vs, a, b, d⟩ := x i c e; ⟨l, vs, a, isList_keeps b k, d⟩
/-- a list of lists of ints -/
structure ColsAt (h : Heap) (a : Addr) (cs : List (List Int)) : Prop where
  ex : ∃ rows : List Value, h.IsList a rows.toArray ∧ rows.length = cs.length ∧ RowsAt h rows cs

noncomputable def colOf (cs : List (List Int)) (i : Nat) : List Int := cs.getD i []
noncomputable def lessAt (cs : List (List Int)) (p r : Nat) : Bool := lesserB (colOf cs p) (colOf cs r)
noncomputable def heldB (cs : List (List Int)) (q p : Nat) : Bool := (List.range (q - (p + 1))).all fun j => lessAt cs p (p + 1 + j)
noncomputable def heldL (cs : List (List Int)) (q : Nat) : List Nat := (List.range q).filter (heldB cs q)
noncomputable def stayL (cs : List (List Int)) (q : Nat) : List Nat := (heldL cs q).filter fun p => lessAt cs p q
noncomputable def offRow (cs : List (List Int)) (q : Nat) : List (Nat × Bool) := ((heldL cs q).filter fun p => !(stayL cs q).contains p).map fun p => (p, decide (colOf cs p = colOf cs q))
noncomputable def uponL (cs : List (List Int)) : List Int := -1 :: (List.range (cs.length - 1)).map fun k => ((stayL cs (k + 1)).getLastD 0 : Int)
noncomputable def offL (cs : List (List Int)) : List (List (Nat × Bool)) := [] :: (List.range (cs.length - 1)).map fun k => offRow cs (k + 1)
noncomputable def pairD (x : Nat × Bool) : PyData := .tuple [.int x.1, .bool x.2]
noncomputable def offD (l : List (List (Nat × Bool))) : List PyData := l.map fun r => .list (r.map pairD)
noncomputable def natsI (l : List Nat) : List Int := l.map fun n : Nat => (n : Int)

section
variable {prog : Program} {w : World} {A : Around} {E : Value → Shared → Prop} {s : Shared}
/-- a call of _law_lesser on two rows -/
theorem lesser_at {cs : List (List Int)} {i j : Nat} {va vb : Value} {rows : List Value} {Q : Value → Shared → Prop} {d : Nat} (B : Base w s.heap) (R : Room A (d + 2))
    (hc : RowsAt s.heap rows cs) (h6 : ∀ c ∈ cs, c.length = 6) (hi : i < cs.length) (hj : j < cs.length) (ei : rows[i]? = some va) (ej : rows[j]? = some vb)
    (h : ∀ s', Keeps s s' → Q (.bool (lessAt cs i j)) s') : wpAny (model prog w) A (call (.ref 162) [va, vb]) Q E s := by
  have ci : cs[i]? = some (colOf cs i) := get_lk hi
  have cj : cs[j]? = some (colOf cs j) := get_lk hj
  obtain ⟨l1, v1, a1, b1, d1⟩ := hc i _ ci
  obtain ⟨l2, v2, a2, b2, d2⟩ := hc j _ cj
  rw [ei] at a1; rw [ej] at a2
  cases a1; cases a2
  exact lesser_spec B R b1 b2 d1 d2 (h6 _ (List.mem_of_getElem? ci)) (h6 _ (List.mem_of_getElem? cj)) h
end

inductive OutJ (h0 : Heap) (a u o : Addr) (cs : List (List Int)) (k : Nat) (gk : Heap) (m' : Str → Option Value) (own' : Own) : Prop
  | mk (vu vo : List Value) (e0 : own' = [(o, listO vo), (u, listO vu)]) (e1 : IntsAre vu ((uponL cs).take (k + 1))) (e2 : RdAll (newOf h0 gk) vo (offD ((offL cs).take (k + 1)))) (e3 : h0.get? u = none) (e4 : h0.get? o = none)
      (e5 : m' "columns" = some (.ref a)) (e6 : m' "upon" = some (.ref u)) (e7 : m' "off" = some (.ref o)) : OutJ h0 a u o cs k gk m' own'
set_option maxHeartbeats 2000000 in
theorem outline_spec {prog : Program} {w : World} {A : Around} {E : Value → Shared → Prop} {s : Shared} {a : Addr} {cs : List (List Int)} {Q : Value → Shared → Prop} {d : Nat}
    (B : Base w s.heap) (R : Room A (d + 3)) (hc : ColsAt s.heap a cs) (h6 : ∀ c ∈ cs, c.length = 6) (hn : cs.length ≤ 100) (h0 : ∀ q, 0 < q → q < cs.length → lessAt cs 0 q = true)
    (h : ∀ D u o vu vo s', Keeps s s' → (∀ gn, NewIn s.heap s'.heap gn → gn.IsTuple D [.ref u, .ref o].toArray ∧ gn.PlainList u vu.toArray ∧ IntsAre vu (uponL cs) ∧ gn.IsList o vo.toArray ∧ RdAll gn vo (offD (offL cs))) → Q (.ref D) s') :
    wpAny (model prog w) A (call (.ref 167) [.ref a]) Q E s := by
  refine enterF fnOutline [("columns", .ref a)] B R ?hcd ?hbind ?hclo ?hkinds ?hcells ?hco ?hgen ?hk ?_
  ((case hcd => rfl); (case hbind => rfl); (case hclo => rfl); (case hkinds => rfl); (case hcells => rfl); (case hco => rfl); (case hgen => rfl); (case hk => rfl))
  intro L A' s₁ R' B₁ X
  rw [bdOutline.2]; dsimp only [bdOutline]
  obtain ⟨rows, hrows, hlen, hrow⟩ := hc.ex
  walk_at "st"
  refine pair_swap ?_ rfl rfl rfl rfl rfl
  refine tuple_disp ?_
  (repeat (walk_at "st"))
  refine list_disp ?_
  (repeat (walk_at "st"))
  refine ⟨sz_of (show 1 ≤ 1000 by decide), fun u s₂ k₂ hu hpu => ?_⟩
  have X2 := X.push_list (s' := s₂) hu (Keeps.trans (keeps_tok _ _) k₂) hpu
  (repeat (walk_at "st"))
  refine list_disp ?_
  walk_at "st"
  refine list_disp ?_
  (repeat (walk_at "st"))
  refine ⟨Nat.zero_le _, fun e3 s₃ k₃ he3 hpe3 => ?_⟩
  obtain ⟨g3, hg3, hin3, X3⟩ := X2.grow k₃
  (repeat (walk_at "st"))
  refine ⟨sz_of (show 1 ≤ 1000 by decide), fun o s₄ k₄ ho hpo => ?_⟩
  have X4 := X3.push_list ho k₄ hpo
  (repeat (walk_at "st"))
  refine ⟨sz_of (show 2 ≤ 1000 by decide), fun t5 s₅ k₅ hn5 ht5 => ?_⟩
  refine ⟨_, _, _, _, _, _, _, _, _, rfl, R'.hh, X4, k₅, ht5, fun s₆ X6 => ?_, rfl, rfl⟩
  have hr3 : RdAll (newOf s.heap g3) [.ref e3] (offD [[]]) := by
    obtain ⟨n, hpe3⟩ := hpe3
    exact RdAll.cons (Rd.list (vs := []) ⟨_, newOf_get (hin3 _ _ hpe3 he3) (not_before X2.keep he3), rfl, n, rfl⟩ RdAll.nil) RdAll.nil
  have B6 := B.keeps (hg3.trans X6.keep)
  walk_at "st"
  (refine for_mk ?_ ?hkz30 ?hsz30 ?hEz30; (case hkz30 => rfl); (case hsz30 => intro _; rfl); (case hEz30 => exact PassesOwn.never))
  (repeat (walk_at "st"))
  refine len_k (isList_keeps hrows (hg3.trans X6.keep)) (by rw [hlen, sizeLine_eq]; omega) fun t7 s₇ k₇ e₇ => ?_
  rw [hlen]
  have X7 := X6.keeps (Keeps.trans (keeps_tok _ _) k₇)
  (repeat (walk_at "st"))
  refine range2 fun r s₈ k₈ hr => ?_
  have X8 := X7.keeps k₈
  refine ⟨_, _, _, _, [(o, listO [.ref e3]), (u, listO [_])], [], _, _, _, OutJ s.heap a u o cs, X8, iterS_rA (n := cs.length - 1) R'.hh hr (toNat_sub _ 1) (by omega) (by omega), by simp, ?_,
    ⟨_, _, rfl, .cons _ _ .nil, hr3, not_before X.keep hu, not_before (hg3.trans X3.keep) ho, by walk_at "mv", by walk_at "mv", by walk_at "mv"⟩, ?_, ?_⟩
  · exact .inr ⟨rfl, _, rfl, rfl⟩
  · intro k gk m' own' v I oI s₉ hk hg hJ hP X9
    obtain ⟨vu, vo, rfl, hvu, hvo, hun, hon, e1, e2, e3'⟩ := hJ
    obtain ⟨tk, rfl⟩ := hP
    have ek : (1 : Int) + (k : Int) = ((k + 1 : Nat) : Int) := by omega
    have hkc : k + 1 < cs.length := by omega
    have hr9 : ∀ {z : Nat}, z < cs.length → ∃ v, rows[z]? = some v := fun h => ⟨_, List.getElem?_eq_getElem (hlen.symm ▸ h)⟩
    have ht9 : ∀ {z : Nat}, z < cs.length → z < 1000 := fun h => Nat.lt_of_lt_of_le h (Nat.le_trans hn (by decide))
    rw [ek] at X9
    have k09 : Ext s.heap s₉.heap := hg3.trans (hg.trans X9.keep)
    have B9 := B.keeps k09
    have cc := X9.cap (n := "columns") (by walk_at "mv") rfl rfl
    have cq := X9.cap (n := "q") (by walk_at "mv") rfl rfl
    refine hideQ fun Q1 hQ1 => ?_
    walk_at "st"
    refine' comp_mk_assign (F := fun i ys _ => IntsAre ys (natsI ((List.range i).filter (heldB cs (k + 1))))) ?_ ?hmono ?hsw ?hclos ?hkind ?hnames ?hcells ?hx ?hke ?hy ?hs
    ((case hclos => with_unfolding_all rfl); (case hkind => rfl); (case hnames => rfl); (case hcells => rfl); (case hs => intro _; rfl))
    (case hx => exact .inr ⟨rfl, fun _ => ⟨_, rfl⟩⟩)
    case hmono => exact fun _ _ _ _ _ h => h
    case hke => rfl
    case hy => rfl
    case hsw => with_unfolding_all rfl
    (repeat (walk_at "st"))
    refine range1 fun r1 s₁₀ k₁₀ hr1 => ?_
    have X10 := X9.keeps k₁₀
    refine ⟨_, _, _, _, _, _, _, X10, iterAt_r0 (n := k + 1) R'.hh hr1 rfl (Nat.lt_trans (ht9 hkc) (by decide)), sz_of (Nat.le_of_lt (ht9 hkc)), .nil, ?_, ?_, ?_⟩
    · intro C i s₃' g' gF m'' own' zs v s₁₁ E' hi hgF hgs hx3 hC hF hP Y
      obtain ⟨ti, rfl⟩ := hP
      have k011 : Ext s.heap s₁₁.heap := k09.trans ((Keeps.ext k₁₀).trans hx3)
      have cc1 := cc.keeps ((Keeps.ext k₁₀).trans hx3)
      have cq1 := cq.keeps ((Keeps.ext k₁₀).trans hx3)
      have cp1 := Y.cap (n := "p") (by walk_at "mv") rfl rfl
      have B11 := B.keeps k011
      refine hideQ fun Qt1 hQt1 => ?_
      refine wpAny_tests_one ?_
      walk_at "st"
      refine' comp_mk (F := fun j ys _ => (ys = [] ↔ ∀ j' < j, lessAt cs i (i + 1 + j') = true)) ?_ ?hmono2 ?hclos ?hkind ?hnames ?hcells ?hx ?hs
      ((case hclos => with_unfolding_all rfl); (case hkind => rfl); (case hnames => rfl); (case hcells => rfl); (case hs => intro _; rfl))
      (case hx => exact .inl rfl)
      case hmono2 => exact fun _ _ _ _ _ h => h
      (repeat (walk_at "st"))
      refine range2 fun r2 s₁₂ k₁₂ hr2 => ?_
      have Y2 := Y.keeps (Keeps.trans (keeps_tok _ _) k₁₂)
      refine ⟨_, _, _, _, _, _, _, Y2, iterAt_rA (n := (k + 1) - (i + 1)) R'.hh hr2 (toNat_sub (k + 1) (i + 1)) (by omega) (by omega), sz_of (by omega), by simp, ?_, ?_⟩
      · intro C2 j s₄' g2' gF2 m2 own2 zs2 v2 s₁₃ E2 hj hgF2 hgs2 hx4 hC2 hF2 hP2 Y3
        obtain ⟨tj, rfl⟩ := hP2
        have k1213 : Ext s₁₁.heap s₁₃.heap := (Keeps.ext k₁₂).trans hx4
        have cc2 := cc1.keeps k1213
        have cp2 := cp1.keeps k1213
        have B13 := B11.keeps k1213
        have hr13 : RowsAt s₁₃.heap rows cs := hrow.keeps (k011.trans k1213)
        have hl13 := isList_keeps hrows (k011.trans k1213)
        have erj : (i : Int) + 1 + (j : Int) = ((i + 1 + j : Nat) : Int) := by omega
        rw [erj] at Y3
        refine hideQ fun Qt2 hQt2 => ?_
        refine wpAny_tests_one ?_
        (repeat (walk_at "st"))
        refine call_own fnLesser B13 ?_ rfl
        (repeat (walk_at "st"))
        have hic : i < cs.length := Nat.lt_trans hi hkc
        have hjc : i + 1 + j < cs.length := by omega
        obtain ⟨va, eva⟩ := hr9 hic
        obtain ⟨vb, evb⟩ := hr9 hjc
        refine item_n hl13 (ht9 hic) eva ?_ rfl
        (repeat (walk_at "st"))
        refine item_n hl13 (ht9 hjc) evb ?_ rfl
        (repeat (walk_at "st"))
        refine ⟨B13, ?_⟩
        refine lesser_at B13 R' hr13 h6 hic hjc eva evb fun s₁₄ k₁₄ => ?_
        walk_at "st"
        refine hQt2 _ _ ?_
        refine ⟨k₁₄, ?_⟩
        cases hle : lessAt cs i (i + 1 + j) with
        | false =>
          rw [if_pos (by decide)]
          have Y4 := Y3.keeps k₁₄
          (repeat (walk_at "st"))
          refine ⟨Keeps.refl _, fun g'' _ _ => ?_⟩
          constructor
          · intro h; simp at h
          · intro h; have := h j (Nat.lt_succ_self j); rw [hle] at this; cases this
        | true =>
          rw [if_neg (by decide)]
          refine hF2.trans ⟨fun h j' hj' => ?_, fun h j' hj' => h j' (Nat.lt_succ_of_lt hj')⟩
          rcases Nat.lt_succ_iff_lt_or_eq.mp hj' with q | rfl
          · exact h j' q
          · exact hle
      · intro D2 zs2 g2 s₁₃ hg2 X13 k13 hD2 hl2 hF2
        refine list_disp ?_
        (repeat (walk_at "st"))
        refine ⟨Nat.zero_le _, fun l14 s₁₄ k₁₄ hl14 hp14 => ?_⟩
        refine cmp_nil ((hl2.isList.at fun o e => (Keeps.ext k₁₄) _ o (X13.keep _ o e))) hp14.isList R'.unit ?_
        walk_at "st"
        have X14 := X13.keeps k₁₄
        have eh : decide (zs2 = []) = heldB cs (k + 1) i := by
          unfold heldB
          rw [Bool.eq_iff_iff, decide_eq_true_eq, hF2, List.all_eq_true]
          simp only [List.mem_range]
        rw [eh]
        refine hQt1 _ _ ?_
        refine ⟨Keeps.trans (Keeps.trans (keeps_tok _ _) k₁₂) (Keeps.trans k13 k₁₄), ?_⟩
        have esucc : (List.range (i + 1)).filter (heldB cs (k + 1)) = (List.range i).filter (heldB cs (k + 1)) ++ (if heldB cs (k + 1) i = true then [i] else []) := by
          rw [List.range_succ, List.filter_append]
          congr 1
          by_cases hh : heldB cs (k + 1) i = true
          · rw [if_pos hh]; simp [hh]
          · rw [if_neg hh]; simp [hh]
        cases hh : heldB cs (k + 1) i with
        | true =>
          rw [if_pos rfl]
          (repeat (walk_at "st"))
          refine ⟨Keeps.refl _, fun g'' _ _ => ?_⟩
          show IntsAre _ (natsI ((List.range (i + 1)).filter (heldB cs (k + 1))))
          rw [esucc, if_pos hh]
          unfold natsI at *
          rw [List.map_append]
          exact IntsAre.snoc hF _ _
        | false =>
          rw [if_neg (by decide)]
          show IntsAre _ (natsI ((List.range (i + 1)).filter (heldB cs (k + 1))))
          rw [esucc, if_neg (by rw [hh]; decide), List.append_nil]
          exact hF
    · exact hoc_of rfl
    · intro D15 hv g15 s₁₅ hg15 hD15 X15 hp15 hF15
      dsimp only
      have hheld : IntsAre hv (natsI (heldL cs (k + 1))) := hF15
      have hhl := hheld.length
      have hhm : ∀ p ∈ heldL cs (k + 1), p < k + 1 := fun p hp => List.mem_range.mp (List.mem_filter.mp hp).1
      have hhle : (heldL cs (k + 1)).length ≤ k + 1 := by have := List.length_filter_le (heldB cs (k + 1)) (List.range (k + 1)); rw [List.length_range] at this; exact this
      unfold natsI at hhl
      rw [List.length_map] at hhl
      have k015 : Ext s.heap s₁₅.heap := hg3.trans (hg.trans (hg15.trans X15.keep))
      have cc5 := X15.cap (n := "columns") (by walk_at "mv") rfl rfl
      have cq5 := X15.cap (n := "q") (by walk_at "mv") rfl rfl
      walk_at "st"
      walk_at "st"
      refine' comp_mk (F := fun i ys _ => IntsAre ys (natsI (((heldL cs (k + 1)).take i).filter fun p => lessAt cs p (k + 1)))) ?_ ?hmono3 ?hclos ?hkind ?hnames ?hcells ?hx ?hs
      ((case hclos => with_unfolding_all rfl); (case hkind => rfl); (case hnames => rfl); (case hcells => rfl); (case hs => intro _; rfl))
      (case hx => exact .inl rfl)
      case hmono3 => exact fun _ _ _ _ _ h => h
      (repeat (walk_at "st"))
      refine ⟨_, _, _, _, _, _, _, X15, iterAt_list R'.hh (hp15.isList.at fun o e => X15.keep _ o e), sz_arr (by omega), .nil, ?_, ?_⟩
      · intro C i s₃' g' gF m'' own' zs v s₁₆ E' hi hgF hgs hx3 hC hF hP Y
        obtain ⟨pn, tp, rfl, hpn⟩ := IntsAre.at hheld i v (by simpa using hP)
        obtain ⟨pp, hpp, rfl⟩ : ∃ pp : Nat, (heldL cs (k + 1))[i]? = some pp ∧ (pp : Int) = pn := by
          unfold natsI at hpn
          rw [List.getElem?_map] at hpn
          obtain ⟨pp, e1, e2⟩ := Option.map_eq_some_iff.mp hpn
          exact ⟨pp, e1, e2⟩
        have hplt := hhm pp (List.mem_of_getElem? hpp)
        have k016 : Ext s.heap s₁₆.heap := k015.trans hx3
        have cc6 := cc5.keeps hx3
        have cq6 := cq5.keeps hx3
        have B16 := B.keeps k016
        have hr16 : RowsAt s₁₆.heap rows cs := hrow.keeps k016
        have hl16 := isList_keeps hrows k016
        refine hideQ fun Qt3 hQt3 => ?_
        refine wpAny_tests_one ?_
        (repeat (walk_at "st"))
        refine call_own fnLesser B16 ?_ rfl
        (repeat (walk_at "st"))
        have hpc : pp < cs.length := Nat.lt_trans hplt hkc
        obtain ⟨va, eva⟩ := hr9 hpc
        obtain ⟨vb, evb⟩ := hr9 hkc
        refine item_n hl16 (ht9 hpc) eva ?_ rfl
        (repeat (walk_at "st"))
        refine item_n hl16 (ht9 hkc) evb ?_ rfl
        (repeat (walk_at "st"))
        refine ⟨B16, ?_⟩
        refine lesser_at B16 R' hr16 h6 hpc hkc eva evb fun s₁₇ k₁₇ => ?_
        walk_at "st"
        refine hQt3 _ _ ?_
        refine ⟨k₁₇, ?_⟩
        have Y7 := Y.keeps k₁₇
        have esucc : ((heldL cs (k + 1)).take (i + 1)).filter (fun p => lessAt cs p (k + 1)) = ((heldL cs (k + 1)).take i).filter (fun p => lessAt cs p (k + 1)) ++ (if lessAt cs pp (k + 1) = true then [pp] else []) := by
          rw [take_snoc hpp, List.filter_append]
          congr 1
          by_cases hh : lessAt cs pp (k + 1) = true
          · rw [if_pos hh]; simp [hh]
          · rw [if_neg hh]; simp [hh]
        cases hh : lessAt cs pp (k + 1) with
        | true =>
          rw [if_pos rfl]
          (repeat (walk_at "st"))
          refine ⟨Keeps.refl _, fun g'' _ _ => ?_⟩
          show IntsAre _ (natsI (((heldL cs (k + 1)).take (i + 1)).filter _))
          rw [esucc, if_pos hh]
          unfold natsI at *
          rw [List.map_append]
          exact IntsAre.snoc hF _ _
        | false =>
          rw [if_neg (by decide)]
          show IntsAre _ (natsI (((heldL cs (k + 1)).take (i + 1)).filter _))
          rw [esucc, if_neg (by rw [hh]; decide), List.append_nil]
          exact hF
      · intro D16 sv g16 s₁₆ hg16 X16 k16 hD16 hp16 hF16
        have hstay : IntsAre sv (natsI (stayL cs (k + 1))) := by
          rw [List.take_of_length_le (by simp; omega)] at hF16
          exact hF16
        have hsl := hstay.length
        unfold natsI at hsl
        rw [List.length_map] at hsl
        have hne : stayL cs (k + 1) ≠ [] := by
          intro q
          have m0 : (0 : Nat) ∈ stayL cs (k + 1) := by
            unfold stayL heldL
            refine List.mem_filter.mpr ⟨List.mem_filter.mpr ⟨List.mem_range.mpr (by omega), ?_⟩, h0 (k + 1) (by omega) (by omega)⟩
            unfold heldB
            rw [List.all_eq_true]
            intro j hj
            have := List.mem_range.mp hj
            exact h0 _ (by omega) (by omega)
          rw [q] at m0
          cases m0
        (first | (refine' put_l ?xz31 ?kz31 ?_ ?hlz31 ?hkz31 ?hocz31; (case xz31 => assumption); (case hlz31 => rfl); (case hocz31 => rfl); (case hkz31 => rfl); (case kz31 => walk_at "kp")) | (refine' put_c ?xz31 ?kz31 ?_ ?hlz31 ?hkz31 ?hocz31 ?hez31; (case xz31 => assumption); (case hlz31 => rfl); (case hocz31 => rfl); (case hez31 => rfl); (case hkz31 => rfl); (case kz31 => walk_at "kp")))
        intro s₁₇ X17
        try dsimp only
        (repeat (walk_at "st"))
        refine MethodCall_ ?_
        walk_at "st"
        refine getm_append (X17.own_list (Keeps.refl _) (.tail _ (.head _))) ?_
        try dsimp only
        refine callWith_method1 ?_
        (repeat (walk_at "st"))
        have hslpos : 0 < (stayL cs (k + 1)).length := List.length_pos_iff.mpr hne
        obtain ⟨tl, etl⟩ := IntsAre.get' hstay (i := (stayL cs (k + 1)).length - 1) (n := ((stayL cs (k + 1)).getLastD 0 : Nat)) (by
          unfold natsI
          rw [List.getElem?_map, List.getLastD_eq_getLast?, ← List.getLast?_eq_getElem?]
          cases e : (stayL cs (k + 1)).getLast? with
          | none => rw [List.getLast?_eq_none_iff] at e; exact absurd e hne
          | some x => rfl)
        refine item_neg (isList_keeps hp16.isList X17.keep) (by decide) (by omega) (by decide) (by rw [show ((-1 : Int) + (sv.length : Int)).toNat = (stayL cs (k + 1)).length - 1 by omega]; exact etl) ?_ rfl
        (repeat (walk_at "st"))
        refine append_own (pre := [(o, listO vo)]) (post := [(I, (· = oI))]) X17 (keeps_tok _ _) (fun s₁₈ X18 => ?_) ?_
        · try dsimp only
          have B18 := B.keeps (hg3.trans (hg.trans (hg15.trans (hg16.trans X18.keep))))
          have cc8 := X18.cap (n := "columns") (by walk_at "mv") rfl rfl
          have cq8 := X18.cap (n := "q") (by walk_at "mv") rfl rfl
          have cs8 := X18.cap (n := "stay") (by walk_at "mv") rfl rfl
          walk_at "st"
          walk_at "st"
          refine MethodCall_ ?_
          walk_at "st"
          refine getm_append (X18.own_list (Keeps.refl _) (.head _)) ?_
          try dsimp only
          refine callWith_method1 ?_
          walk_at "st"
          refine' comp_mk (F := fun i ys hh => RdAll (newOf s.heap hh) ys (((((heldL cs (k + 1)).take i).filter fun p => !(stayL cs (k + 1)).contains p).map fun p => (p, decide (colOf cs p = colOf cs (k + 1)))).map pairD)) ?_ ?hmono4 ?hclos ?hkind ?hnames ?hcells ?hx ?hs
          ((case hclos => with_unfolding_all rfl); (case hkind => rfl); (case hnames => rfl); (case hcells => rfl); (case hs => intro _; rfl))
          (case hx => exact .inl rfl)
          case hmono4 => exact fun _ _ _ _ k h => h.keeps (newOf_ext k)
          (repeat (walk_at "st"))
          refine ⟨_, _, _, _, _, _, _, X18, iterAt_list R'.hh (hp15.isList.at fun o e => X18.keep _ o (hg16 _ o e)), sz_arr (by omega), RdAll.nil, ?_, ?_⟩
          · intro C i s₃' g' gF m'' own' zs v s₁₉ E' hi hgF hgs hx3 hC hF hP Y
            obtain ⟨pn, tp, rfl, hpn⟩ := IntsAre.at hheld i v (by simpa using hP)
            obtain ⟨pp, hpp, rfl⟩ : ∃ pp : Nat, (heldL cs (k + 1))[i]? = some pp ∧ (pp : Int) = pn := by
              unfold natsI at hpn
              rw [List.getElem?_map] at hpn
              obtain ⟨pp, e1, e2⟩ := Option.map_eq_some_iff.mp hpn
              exact ⟨pp, e1, e2⟩
            have hplt := hhm pp (List.mem_of_getElem? hpp)
            have k019 : Ext s.heap s₁₉.heap := (hg3.trans (hg.trans (hg15.trans (hg16.trans X18.keep)))).trans hx3
            have cc9 := cc8.keeps hx3
            have cq9 := cq8.keeps hx3
            have cs9 := cs8.keeps hx3
            have B19 := B.keeps k019
            have hr19 : RowsAt s₁₉.heap rows cs := hrow.keeps k019
            have hl19 := isList_keeps hrows k019
            refine hideQ fun Qt4 hQt4 => ?_
            refine wpAny_tests_one ?_
            (repeat (walk_at "st"))
            refine notin_ints_k (isList_keeps hp16.isList (X18.keep.trans hx3)) hstay R'.unit64 ?_
            walk_at "st"
            refine hQt4 _ _ ?_
            refine ⟨Keeps.refl _, ?_⟩
            have econt : (natsI (stayL cs (k + 1))).contains (pp : Int) = (stayL cs (k + 1)).contains pp := by
              unfold natsI
              rw [Bool.eq_iff_iff, List.contains_iff_mem, List.contains_iff_mem, List.mem_map]
              constructor
              · rintro ⟨a, ha, e⟩; rw [← Int.ofNat_inj.mp e]; exact ha
              · intro ha; exact ⟨pp, ha, rfl⟩
            rw [econt]
            have esucc : ((heldL cs (k + 1)).take (i + 1)).filter (fun p => !(stayL cs (k + 1)).contains p) = ((heldL cs (k + 1)).take i).filter (fun p => !(stayL cs (k + 1)).contains p) ++ (if (!(stayL cs (k + 1)).contains pp) = true then [pp] else []) := by
              rw [take_snoc hpp, List.filter_append]
              congr 1
              by_cases hh : (!(stayL cs (k + 1)).contains pp) = true
              · rw [if_pos hh]; rw [List.filter_cons, if_pos hh]; rfl
              · rw [if_neg hh]; rw [List.filter_cons, if_neg hh]; rfl
            cases hh : (!(stayL cs (k + 1)).contains pp) with
            | true =>
              rw [if_pos rfl]
              refine tuple_disp ?_
              (repeat (walk_at "st"))
              obtain ⟨l1, v1, a1, b1, d1⟩ := hr19 pp _ (get_lk (d := []) (Nat.lt_trans hplt hkc))
              obtain ⟨l2, v2, a2, b2, d2⟩ := hr19 (k + 1) _ (get_lk (d := []) hkc)
              refine item_n hl19 (ht9 (Nat.lt_trans hplt hkc)) a1 ?_ rfl
              (repeat (walk_at "st"))
              refine item_n hl19 (ht9 hkc) a2 ?_ rfl
              refine eq_ints_k b1 d1 b2 d2 R'.unit64 ?_
              (repeat (walk_at "st"))
              refine ⟨sz_of (show 2 ≤ 1000 by decide), fun D20 s₂₀ k₂₀ hn20 ht20 => ?_⟩
              refine ⟨k₂₀, fun g'' hg'' hin => ?_⟩
              show RdAll (newOf s.heap g'') _ (((((heldL cs (k + 1)).take (i + 1)).filter _).map _).map pairD)
              rw [esucc, if_pos hh, List.map_append, List.map_append]
              refine RdAll.append (RdAll.cons ?_ RdAll.nil) (hF.keeps (newOf_ext hg''))
              obtain ⟨o20, e20, r20⟩ := ht20
              exact Rd.tuple (vs := [_, _]) ⟨o20, newOf_get (hin _ _ e20 hn20) (not_before k019 hn20), r20⟩ (RdAll.cons (Rd.int _ _) (RdAll.cons (Rd.bool _) RdAll.nil))
            | false =>
              rw [if_neg (by decide)]
              show RdAll (newOf s.heap gF) _ (((((heldL cs (k + 1)).take (i + 1)).filter _).map _).map pairD)
              rw [esucc, if_neg (by rw [hh]; decide), List.append_nil]
              exact hF
          · intro D19 ov g19 s₁₉ hg19 X19 k19 hD19 hp19 hF19
            (repeat (walk_at "st"))
            refine append_own (pre := []) (post := [(u, listO _), (I, (· = oI))]) X19 (Keeps.refl _) (fun s₂₀ X20 => ?_) ?_
            · try dsimp only
              (repeat (walk_at "st"))
              refine hQ1 _ _ ?_
              refine ⟨_, _, [(o, listO (vo ++ [.ref D19])), (u, listO _)], hg15.trans (hg16.trans hg19), ⟨_, _, rfl, ?_, ?_, hun, hon, by walk_at "mv", by walk_at "mv", by walk_at "mv"⟩, X20⟩
              · have e : (uponL cs)[k + 1]? = some (((stayL cs (k + 1)).getLastD 0 : Nat) : Int) := by
                  unfold uponL
                  rw [List.getElem?_cons_succ, List.getElem?_map, List.getElem?_range hk]
                  rfl
                rw [take_snoc e]
                exact IntsAre.snoc hvu _ _
              · have e : (offL cs)[k + 1]? = some (offRow cs (k + 1)) := by
                  unfold offL
                  rw [List.getElem?_cons_succ, List.getElem?_map, List.getElem?_range hk]
                  rfl
                rw [take_snoc e]
                unfold offD
                rw [List.map_append]
                refine RdAll.append (RdAll.cons ?_ RdAll.nil) (hvo.keeps (newOf_ext (hg15.trans (hg16.trans hg19))))
                have hF20 : RdAll (newOf s.heap g19) ov ((offRow cs (k + 1)).map pairD) := by
                  have := hF19
                  rw [List.take_of_length_le (by simp; omega)] at this
                  exact this
                obtain ⟨n19, e19⟩ := hp19
                exact Rd.list ⟨_, newOf_get e19 (not_before (hg3.trans (hg.trans (hg15.trans (hg16.trans X18.keep)))) hD19), rfl, n19, rfl⟩ hF20
            · have := hvo.len
              unfold offD at this
              rw [List.length_map, List.length_take] at this
              rw [sizeLine_eq]; omega
        · have := hvu.length
          rw [List.length_take] at this
          rw [sizeLine_eq]; omega
  · intro gk m' own' s₉ hg hJ X9
    obtain ⟨vu, vo, rfl, hvu, hvo, hun, hon, e1, e2, e3'⟩ := hJ
    try dsimp only
    have e1u : (uponL cs).take (cs.length - 1 + 1) = uponL cs := List.take_of_length_le (by simp [uponL])
    have e1o : (offL cs).take (cs.length - 1 + 1) = offL cs := List.take_of_length_le (by simp [offL])
    rw [e1u] at hvu
    rw [e1o] at hvo
    walk_at "st"
    walk_at "st"
    refine tuple_disp ?_
    (repeat (walk_at "st"))
    refine ⟨sz_of (show 2 ≤ 1000 by decide), fun D s₁₀ k₁₀ hn ht => ?_⟩
    refine h D u o vu vo s₁₀ (Keeps.trans (X9.done (hg3.trans hg)) k₁₀) fun gn hgn => ?_
    obtain ⟨oD, eD, rD⟩ := ht
    obtain ⟨ou, eu, nu, rfl⟩ := X9.mine (u, listO vu) (.tail _ (.head _))
    obtain ⟨oo, eo, no, rfl⟩ := X9.mine (o, listO vo) (.head _)
    refine ⟨⟨oD, hgn _ _ eD (not_before (hg3.trans (hg.trans X9.keep)) hn), rD⟩, ⟨nu, hgn _ _ ((Keeps.ext k₁₀) _ _ eu) hun⟩, hvu, ⟨_, hgn _ _ ((Keeps.ext k₁₀) _ _ eo) hon, rfl, no, rfl⟩, hvo.keeps ?_⟩
    exact Ext.trans (newOf_ext (X9.keep.trans (Keeps.ext k₁₀))) (newOf_new hgn)
/-! part P1 -/
/-! the leads: lists of at most five signs -/
noncomputable def leadsN : Nat → List (List Nat)
  | 0 => [[]]
  | n + 1 => (leadsN n).flatMap fun l => [32 :: l, 9 :: l]
noncomputable def allLeads : List (List Nat) := leadsN 0 ++ leadsN 1 ++ leadsN 2 ++ leadsN 3 ++ leadsN 4 ++ leadsN 5
noncomputable def moreLeads : List (List Nat) := leadsN 1 ++ leadsN 2 ++ leadsN 3 ++ leadsN 4 ++ leadsN 5
theorem map_leadsN (f : Nat → Nat) (hf : ∀ k, f k = 32 ∨ f k = 9) : ∀ (n : Nat) (g : Nat → Nat), (List.range n).map (fun k => f (g k)) ∈ leadsN n
  | 0, _ => by simp [leadsN]
  | n + 1, g => by
    rw [List.range_succ_eq_map, List.map_cons, List.map_map]
    show _ ∈ (leadsN n).flatMap fun l => [32 :: l, 9 :: l]
    rw [List.mem_flatMap]
    refine ⟨_, map_leadsN f hf n (fun k => g (k + 1)), ?_⟩
    rcases hf (g 0) with e | e <;> rw [e] <;> simp [Function.comp_def]
theorem sg_or (v : Int) (k : Nat) : sg v k = 32 ∨ sg v k = 9 := by unfold sg; split <;> simp
theorem lead_more {v : Int} : leadCodes v ∈ moreLeads := by
  unfold leadCodes
  have h := map_leadsN (sg v) (sg_or v) (1 + v % 5).toNat id
  simp only [id] at h
  have e : (1 + v % 5).toNat = 1 ∨ (1 + v % 5).toNat = 2 ∨ (1 + v % 5).toNat = 3 ∨ (1 + v % 5).toNat = 4 ∨ (1 + v % 5).toNat = 5 := by
    obtain ⟨k, h5, hk⟩ := mod_nat (n := 5) v (by decide)
    rw [show v % 5 = (k : Int) from hk]
    exact (by decide : ∀ k : Nat, k < 5 → (1 + (k : Int)).toNat = 1 ∨ (1 + (k : Int)).toNat = 2 ∨ (1 + (k : Int)).toNat = 3 ∨ (1 + (k : Int)).toNat = 4 ∨ (1 + (k : Int)).toNat = 5) k h5
  unfold moreLeads
  simp only [List.mem_append]
  rcases e with e | e | e | e | e <;> rw [e] at h ⊢ <;> generalize (List.range _).map (sg v) = l at h ⊢ <;> simp only [h, true_or, or_true]
theorem more_all {l : List Nat} (h : l ∈ moreLeads) : l ∈ allLeads := by
  unfold moreLeads at h; unfold allLeads
  simp only [List.mem_append] at h ⊢
  rcases h with (((h | h) | h) | h) | h <;> simp [h]
theorem nil_all : ([] : List Nat) ∈ allLeads := by decide
noncomputable def leadOkB (l : List Nat) : Bool := l.length ≤ 5 && l.all fun z => z == 32 || z == 9
theorem leads_ok : allLeads.all leadOkB = true := by decide +kernel
theorem lead_ok {l : List Nat} (h : l ∈ allLeads) : l.length ≤ 5 ∧ ∀ z ∈ l, z = 32 ∨ z = 9 := by
  have := List.all_eq_true.mp leads_ok l h
  unfold leadOkB at this
  rw [Bool.and_eq_true] at this
  refine ⟨by simpa using this.1, fun z hz => ?_⟩
  have := List.all_eq_true.mp this.2 z hz
  simpa using this
theorem first_ok : (moreLeads.all fun l => lesserB (columnsOf []) (columnsOf l)) = true := by decide +kernel
theorem first_less {l : List Nat} (h : l ∈ moreLeads) : lesserB (columnsOf []) (columnsOf l) = true := List.all_eq_true.mp first_ok l h
noncomputable def rowOf (l : List Nat) : Nat × Nat × Nat × List Int × List Int := ((wsOf l).n, (wsOf l).nt, (wsOf l).b, (wsOf l).cs, columnsOf l)
noncomputable abbrev wsR (r : Nat × Nat × Nat × List Int × List Int) : Ws := ⟨r.1, r.2.1, r.2.2.1, r.2.2.2.1⟩
noncomputable def pairOk (a b : Nat × Nat × Nat × List Int × List Int) : Bool := (lessW (wsR a) (wsR b) == lesserB a.2.2.2.2 b.2.2.2.2) && (eqW (wsR a) (wsR b) == decide (a.2.2.2.2 = b.2.2.2.2))
noncomputable def tabWC : List (Nat × Nat × Nat × List Int × List Int) := [
  (0, 0, 0, [], [0, 0, 0, 0, 0, 0]),
  (1, 0, 1, [], [1, 1, 1, 1, 1, 1]),
  (1, 1, 0, [1], [1, 2, 3, 4, 5, 6]),
  (2, 0, 2, [], [2, 2, 2, 2, 2, 2]),
  (2, 1, 1, [1], [2, 3, 4, 5, 6, 7]),
  (2, 1, 0, [0, 1], [2, 2, 3, 4, 5, 6]),
  (2, 2, 0, [2], [2, 4, 6, 8, 10, 12]),
  (3, 0, 3, [], [3, 3, 3, 3, 3, 3]),
  (3, 1, 2, [1], [3, 4, 5, 6, 7, 8]),
  (3, 1, 1, [0, 1], [3, 3, 4, 5, 6, 7]),
  (3, 2, 1, [2], [3, 5, 7, 9, 11, 13]),
  (3, 1, 0, [0, 0, 1], [3, 4, 3, 4, 5, 6]),
  (3, 2, 0, [1, 1], [3, 4, 6, 8, 10, 12]),
  (3, 2, 0, [1, 1], [3, 4, 6, 8, 10, 12]),
  (3, 3, 0, [3], [3, 6, 9, 12, 15, 18]),
  (4, 0, 4, [], [4, 4, 4, 4, 4, 4]),
  (4, 1, 3, [1], [4, 5, 6, 7, 8, 9]),
  (4, 1, 2, [0, 1], [4, 4, 5, 6, 7, 8]),
  (4, 2, 2, [2], [4, 6, 8, 10, 12, 14]),
  (4, 1, 1, [0, 0, 1], [4, 5, 4, 5, 6, 7]),
  (4, 2, 1, [1, 1], [4, 5, 7, 9, 11, 13]),
  (4, 2, 1, [1, 1], [4, 5, 7, 9, 11, 13]),
  (4, 3, 1, [3], [4, 7, 10, 13, 16, 19]),
  (4, 1, 0, [0, 0, 0, 1], [4, 4, 6, 4, 5, 6]),
  (4, 2, 0, [1, 0, 1], [4, 6, 6, 8, 10, 12]),
  (4, 2, 0, [0, 2], [4, 4, 6, 8, 10, 12]),
  (4, 3, 0, [2, 1], [4, 6, 9, 12, 15, 18]),
  (4, 2, 0, [1, 0, 1], [4, 6, 6, 8, 10, 12]),
  (4, 3, 0, [2, 1], [4, 6, 9, 12, 15, 18]),
  (4, 3, 0, [2, 1], [4, 6, 9, 12, 15, 18]),
  (4, 4, 0, [4], [4, 8, 12, 16, 20, 24]),
  (5, 0, 5, [], [5, 5, 5, 5, 5, 5]),
  (5, 1, 4, [1], [5, 6, 7, 8, 9, 10]),
  (5, 1, 3, [0, 1], [5, 5, 6, 7, 8, 9]),
  (5, 2, 3, [2], [5, 7, 9, 11, 13, 15]),
  (5, 1, 2, [0, 0, 1], [5, 6, 5, 6, 7, 8]),
  (5, 2, 2, [1, 1], [5, 6, 8, 10, 12, 14]),
  (5, 2, 2, [1, 1], [5, 6, 8, 10, 12, 14]),
  (5, 3, 2, [3], [5, 8, 11, 14, 17, 20]),
  (5, 1, 1, [0, 0, 0, 1], [5, 5, 7, 5, 6, 7]),
  (5, 2, 1, [1, 0, 1], [5, 7, 7, 9, 11, 13]),
  (5, 2, 1, [0, 2], [5, 5, 7, 9, 11, 13]),
  (5, 3, 1, [2, 1], [5, 7, 10, 13, 16, 19]),
  (5, 2, 1, [1, 0, 1], [5, 7, 7, 9, 11, 13]),
  (5, 3, 1, [2, 1], [5, 7, 10, 13, 16, 19]),
  (5, 3, 1, [2, 1], [5, 7, 10, 13, 16, 19]),
  (5, 4, 1, [4], [5, 9, 13, 17, 21, 25]),
  (5, 1, 0, [0, 0, 0, 0, 1], [5, 6, 6, 8, 5, 6]),
  (5, 2, 0, [1, 0, 0, 1], [5, 6, 9, 8, 10, 12]),
  (5, 2, 0, [0, 1, 1], [5, 6, 6, 8, 10, 12]),
  (5, 3, 0, [2, 0, 1], [5, 8, 9, 12, 15, 18]),
  (5, 2, 0, [0, 1, 1], [5, 6, 6, 8, 10, 12]),
  (5, 3, 0, [1, 2], [5, 6, 9, 12, 15, 18]),
  (5, 3, 0, [1, 2], [5, 6, 9, 12, 15, 18]),
  (5, 4, 0, [3, 1], [5, 8, 12, 16, 20, 24]),
  (5, 2, 0, [1, 0, 0, 1], [5, 6, 9, 8, 10, 12]),
  (5, 3, 0, [2, 0, 1], [5, 8, 9, 12, 15, 18]),
  (5, 3, 0, [1, 2], [5, 6, 9, 12, 15, 18]),
  (5, 4, 0, [3, 1], [5, 8, 12, 16, 20, 24]),
  (5, 3, 0, [2, 0, 1], [5, 8, 9, 12, 15, 18]),
  (5, 4, 0, [3, 1], [5, 8, 12, 16, 20, 24]),
  (5, 4, 0, [3, 1], [5, 8, 12, 16, 20, 24]),
  (5, 5, 0, [5], [5, 10, 15, 20, 25, 30])]
theorem tab_ok : allLeads.map rowOf = tabWC := by decide +kernel
theorem pairs_ok : (tabWC.all fun a => tabWC.all (pairOk a)) = true := by decide +kernel
theorem pair_ok {a b : List Nat} (ha : a ∈ allLeads) (hb : b ∈ allLeads) : lessW (wsOf a) (wsOf b) = lesserB (columnsOf a) (columnsOf b) ∧ eqW (wsOf a) (wsOf b) = decide (columnsOf a = columnsOf b) := by
  have ia : rowOf a ∈ tabWC := by rw [← tab_ok]; exact List.mem_map_of_mem ha
  have ib : rowOf b ∈ tabWC := by rw [← tab_ok]; exact List.mem_map_of_mem hb
  have := List.all_eq_true.mp (List.all_eq_true.mp pairs_ok _ ia) _ ib
  unfold pairOk at this
  rw [Bool.and_eq_true, beq_iff_eq, beq_iff_eq] at this
  exact this
/-! part P2 -/
/-! the pile and the held chain -/
theorem lesser_trans {a b c : List Int} (h : lesserB a b = true) (h' : lesserB b c = true) : lesserB a c = true := by
  unfold lesserB at *
  rw [List.all_eq_true] at *
  intro k hk
  have h1 := of_decide_eq_true (h k hk)
  have h2 := of_decide_eq_true (h' k hk)
  exact decide_eq_true (Int.lt_trans h1 h2)
theorem heldB_lt {cs : List (List Int)} {q p j : Nat} (h : heldB cs q p = true) (h1 : p < j) (h2 : j < q) : lessAt cs p j = true := by
  unfold heldB at h
  have := List.all_eq_true.mp h (j - (p + 1)) (List.mem_range.mpr (by omega))
  rwa [show p + 1 + (j - (p + 1)) = j by omega] at this
theorem held_pair (cs : List (List Int)) (q : Nat) : (heldL cs q).Pairwise fun a b => lessAt cs a b = true := by
  have h : ((List.range q).filter (heldB cs q)).Pairwise (· < ·) := List.Pairwise.filter _ List.pairwise_lt_range
  have hm : ∀ p ∈ heldL cs q, p < q ∧ heldB cs q p = true := fun p hp => ⟨List.mem_range.mp (List.mem_filter.mp hp).1, (List.mem_filter.mp hp).2⟩
  unfold heldL at *
  refine List.Pairwise.imp_of_mem (fun {a b} ha hb hab => ?_) h
  exact heldB_lt (hm a ha).2 hab (hm b hb).1
theorem held_mem {cs : List (List Int)} {q p : Nat} (h : p ∈ heldL cs q) : p < q := List.mem_range.mp (List.mem_filter.mp h).1
theorem heldB_succ {cs : List (List Int)} {q p : Nat} (h : p < q) : heldB cs (q + 1) p = (heldB cs q p && lessAt cs p q) := by
  unfold heldB
  rw [show q + 1 - (p + 1) = q - (p + 1) + 1 by omega, List.range_succ, List.all_append]
  simp [show p + 1 + (q - (p + 1)) = q by omega]
theorem held_succ (cs : List (List Int)) (q : Nat) : heldL cs (q + 1) = stayL cs q ++ [q] := by
  unfold stayL heldL
  rw [List.range_succ, List.filter_append, List.filter_filter]
  congr 1
  · refine List.filter_congr fun p hp => ?_
    rw [heldB_succ (List.mem_range.mp hp), Bool.and_comm]
  · have : heldB cs (q + 1) q = true := by unfold heldB; simp
    simp [this]
theorem stay_take {cs : List (List Int)} {q k : Nat} (hk : k ≤ (heldL cs q).length) (hoff : ∀ p ∈ (heldL cs q).drop k, lessAt cs p q = false) (hon : ∀ p, (heldL cs q)[k - 1]? = some p → 0 < k → lessAt cs p q = true) :
    stayL cs q = (heldL cs q).take k ∧ offRow cs q = ((heldL cs q).drop k).map fun p => (p, decide (colOf cs p = colOf cs q)) := by
  have hp := held_pair cs q
  have e : heldL cs q = (heldL cs q).take k ++ (heldL cs q).drop k := (List.take_append_drop k _).symm
  have h1 : ∀ p ∈ (heldL cs q).take k, lessAt cs p q = true := by
    intro p hpm
    obtain ⟨i, hi, rfl⟩ := List.getElem_of_mem hpm
    rw [List.length_take] at hi
    have hlast : (heldL cs q)[k - 1]? = some ((heldL cs q)[k - 1]'(by omega)) := List.getElem?_eq_getElem _
    have hl := hon _ hlast (by omega)
    rw [List.getElem_take]
    by_cases hik : i = k - 1
    · subst hik; exact hl
    · exact lesser_trans (List.pairwise_iff_getElem.mp hp i (k - 1) (by omega) (by omega) (by omega)) hl
  have es : stayL cs q = (heldL cs q).take k := by
    unfold stayL
    conv => lhs; rw [e]
    rw [List.filter_append, List.filter_eq_self.mpr h1, List.filter_eq_nil_iff.mpr (fun p hpm => by rw [hoff p hpm]; decide), List.append_nil]
  refine ⟨es, ?_⟩
  unfold offRow
  rw [es]
  congr 1
  have a3 : ∀ f : Nat → Bool, (heldL cs q).filter f = ((heldL cs q).take k).filter f ++ ((heldL cs q).drop k).filter f := fun f => by rw [← List.filter_append, ← e]
  have a1 : ((heldL cs q).take k).filter (fun p => !((heldL cs q).take k).contains p) = [] := by
    rw [List.filter_eq_nil_iff]
    intro p hpm
    simp [hpm]
  have a2 : ((heldL cs q).drop k).filter (fun p => !((heldL cs q).take k).contains p) = (heldL cs q).drop k := by
    rw [List.filter_eq_self]
    intro p hpm
    have : p ∉ (heldL cs q).take k := fun hp2 => absurd (h1 p hp2) (by rw [hoff p hpm]; decide)
    simpa using this
  rw [a3, a1, a2, List.nil_append]

/-! the rows upon which the next ones stand: 132 lists -/
noncomputable def grow1 (r : Nat) (x : List Nat × List Int) : List (List Nat × List Int) := (List.range x.1.length).map fun k => (x.1.take (k + 1) ++ [r], x.2 ++ [((x.1.getD k 0 : Nat) : Int)])
noncomputable def reach : Nat → List (List Nat × List Int)
  | 0 => [([0], [-1])]
  | r + 1 => (reach r).flatMap (grow1 (r + 1))
theorem stay_prefix (cs : List (List Int)) (q : Nat) : ∃ k, k ≤ (heldL cs q).length ∧ stayL cs q = (heldL cs q).take k := by
  have hp := held_pair cs q
  have key : ∀ (l : List Nat), l.Pairwise (fun a b => lessAt cs a b = true) → ∃ k, k ≤ l.length ∧ l.filter (fun p => lessAt cs p q) = l.take k := by
    intro l
    induction l with
    | nil => intro _; exact ⟨0, Nat.le_refl _, rfl⟩
    | cons a r ih =>
      intro h
      obtain ⟨h1, h2⟩ := List.pairwise_cons.mp h
      cases ha : lessAt cs a q with
      | true =>
        obtain ⟨k, hk, e⟩ := ih h2
        exact ⟨k + 1, by simpa using hk, by rw [List.filter_cons_of_pos (by simpa using ha), e, List.take_succ_cons]⟩
      | false =>
        refine ⟨0, Nat.zero_le _, ?_⟩
        rw [List.filter_cons_of_neg (by simp [ha])]
        rw [List.take_zero, List.filter_eq_nil_iff]
        intro b hb hbq
        have := lesser_trans (h1 b hb) hbq
        rw [show lesserB (colOf cs a) (colOf cs q) = lessAt cs a q from rfl, ha] at this
        cases this
  exact key _ hp
theorem stay_ne {cs : List (List Int)} {q : Nat} (h0 : ∀ q, 0 < q → q < cs.length → lessAt cs 0 q = true) (hq : 0 < q) (hl : q < cs.length) : stayL cs q ≠ [] := by
  intro e
  have m0 : (0 : Nat) ∈ stayL cs q := by
    unfold stayL heldL
    refine List.mem_filter.mpr ⟨List.mem_filter.mpr ⟨List.mem_range.mpr hq, ?_⟩, h0 q hq hl⟩
    unfold heldB
    rw [List.all_eq_true]
    intro j hj
    have := List.mem_range.mp hj
    exact h0 _ (by omega) (by omega)
  rw [e] at m0
  cases m0
theorem reach_of {cs : List (List Int)} (h0 : ∀ q, 0 < q → q < cs.length → lessAt cs 0 q = true) : ∀ r, r < cs.length → (heldL cs (r + 1), (uponL cs).take (r + 1)) ∈ reach r
  | 0, _ => by
    have : heldL cs 1 = [0] := by rw [held_succ]; rfl
    rw [this]
    simp [reach, uponL]
  | r + 1, h => by
    have ih := reach_of h0 r (by omega)
    show _ ∈ (reach r).flatMap _
    rw [List.mem_flatMap]
    refine ⟨_, ih, ?_⟩
    unfold grow1
    rw [List.mem_map]
    obtain ⟨k, hk, e⟩ := stay_prefix cs (r + 1)
    have hne := stay_ne h0 (Nat.succ_pos r) h
    have hk0 : 0 < k := by
      rcases Nat.eq_zero_or_pos k with z | z
      · rw [z] at e; exact absurd e hne
      · exact z
    refine ⟨k - 1, List.mem_range.mpr (by show _ < (heldL cs (r + 1)).length; omega), ?_⟩
    have e2 : (uponL cs).take (r + 1 + 1) = (uponL cs).take (r + 1) ++ [((stayL cs (r + 1)).getLastD 0 : Int)] := by
      refine take_snoc ?_
      unfold uponL
      rw [List.getElem?_cons_succ, List.getElem?_map, List.getElem?_range (by omega)]
      rfl
    have e3 : (stayL cs (r + 1)).getLastD 0 = (heldL cs (r + 1)).getD (k - 1) 0 := by
      rw [e, List.getLastD_eq_getLast?, List.getLast?_eq_getElem?, List.length_take, Nat.min_eq_left hk, List.getElem?_take_of_lt (by omega)]
      rfl
    rw [held_succ cs (r + 1), e2, e3, e, show k - 1 + 1 = k by omega]
/-! part G12 -/
abbrev Tab := List (Int × Int × Int)
noncomputable def lkT (t : Tab) (k : Int) : Option (Int × Int) := (t.find? fun x => x.1 = k).map (·.2)
noncomputable def putT (t : Tab) (k a b : Int) : Tab := if t.any (fun x => x.1 = k) then t.map (fun x => if x.1 = k then (x.1, a, b) else x) else t ++ [(k, a, b)]
noncomputable def cost (sym : Int) : Int := if sym < 256 then 0 else sym - 255
noncomputable def freeB (below : List Int) (done : Int) (r : Nat) : Bool := decide (done / 2 ^ r % 2 = 0) && decide (Builtin.bitAnd done (below.getD r 0) = below.getD r 0)
noncomputable def putsB (later : Tab) (new m : Int) : Bool := match lkT later new with | none => true | some (a, _) => decide (a > m)
noncomputable def stepR (below syms : List Int) (done most held : Int) (later : Tab) (r : Nat) : Tab :=
  if freeB below done r = true then
    if putsB later (done + 2 ^ r) (max most (held + 1 - cost (syms.getD r 0))) = true then
      putT later (done + 2 ^ r) (max most (held + 1 - cost (syms.getD r 0))) (held + 1 - cost (syms.getD r 0))
    else later
  else later
noncomputable def stepD (below syms : List Int) (later : Tab) (x : Int × Int × Int) : Tab := (List.range 7).foldl (stepR below syms x.1 x.2.1 x.2.2) later
noncomputable def turnT (below syms : List Int) (best : Tab) : Tab := best.foldl (stepD below syms) []
noncomputable def leastT (below syms : List Int) : Nat → Tab
  | 0 => [(0, 0, 0)]
  | i + 1 => turnT below syms (leastT below syms i)

noncomputable def TabAtP (h : Heap) : List (Int × Value) → Tab → Prop
  | [], [] => True
  | (k, v) :: r, (k', a, b) :: q => k = k' ∧ (∃ p t u, v = .ref p ∧ h.IsTuple p [.int a t, .int b u].toArray) ∧ TabAtP h r q
  | _, _ => False
theorem TabAtP.keeps {h h' : Heap} (k : Ext h h') : ∀ {kvs : List (Int × Value)} {t : Tab}, TabAtP h kvs t → TabAtP h' kvs t
  | [], [], _ => trivial
  | (_, _) :: _, (_, _, _) :: _, ⟨a, ⟨p, t, u, e, q⟩, r⟩ => ⟨a, ⟨p, t, u, e, isTuple_keeps q k⟩, TabAtP.keeps k r⟩
theorem TabAtP.len {h : Heap} : ∀ {kvs : List (Int × Value)} {t : Tab}, TabAtP h kvs t → kvs.length = t.length
  | [], [], _ => rfl
  | (_, _) :: _, (_, _, _) :: _, ⟨_, _, r⟩ => by simp [TabAtP.len r]
theorem TabAtP.get2 {h : Heap} : ∀ {kvs : List (Int × Value)} {t : Tab}, TabAtP h kvs t → ∀ {i : Nat} {k : Int} {x : Value}, kvs[i]? = some (k, x) → ∃ a b p ta tb, t[i]? = some (k, a, b) ∧ x = .ref p ∧ h.IsTuple p [.int a ta, .int b tb].toArray
  | [], [], _, i, k, x, e => by simp at e
  | (_, _) :: _, (_, _, _) :: _, ⟨q, ⟨p, ta, tb, ev, hp⟩, r⟩, i, k, x, e => by
    cases i with
    | zero => simp at e; obtain ⟨rfl, rfl⟩ := e; subst q; exact ⟨_, _, p, ta, tb, rfl, ev, hp⟩
    | succ i => exact TabAtP.get2 r (by simpa using e)
theorem TabAtP.lk {h : Heap} (n : Int) : ∀ {kvs : List (Int × Value)} {t : Tab}, TabAtP h kvs t →
    match lkT t n with
    | some (a, b) => ∃ p ta tb, valueAt kvs n = some (.ref p) ∧ h.IsTuple p [.int a ta, .int b tb].toArray
    | none => valueAt kvs n = none
  | [], [], _ => rfl
  | (k, v) :: r, (k', a, b) :: q, ⟨e, ⟨p, ta, tb, ev, hp⟩, hr⟩ => by
    subst e; subst ev
    by_cases hk : k = n
    · have e1 : lkT ((k, a, b) :: q) n = some (a, b) := by simp [lkT, hk]
      have e2 : valueAt ((k, Value.ref p) :: r) n = some (.ref p) := by simp [valueAt, hk]
      rw [e1, e2]
      exact ⟨p, ta, tb, rfl, hp⟩
    · have e1 : lkT ((k, a, b) :: q) n = lkT q n := by simp [lkT, hk]
      have e2 : valueAt ((k, Value.ref p) :: r) n = valueAt r n := by simp [valueAt, hk]
      rw [e1, e2]
      exact TabAtP.lk n hr
theorem TabAtP.any {h : Heap} (n : Int) : ∀ {kvs : List (Int × Value)} {t : Tab}, TabAtP h kvs t → kvs.any (fun kv => decide (kv.1 = n)) = t.any (fun x => decide (x.1 = n))
  | [], [], _ => rfl
  | (_, _) :: _, (_, _, _) :: _, ⟨e, _, r⟩ => by subst e; simp only [List.any_cons]; rw [TabAtP.any n r]
theorem TabAtP.map {h : Heap} {n a b : Int} {p : Addr} {ta tb : Tok} (hp : h.IsTuple p [.int a ta, .int b tb].toArray) : ∀ {kvs : List (Int × Value)} {t : Tab}, TabAtP h kvs t →
    TabAtP h (kvs.map fun kv => if kv.1 = n then (kv.1, .ref p) else kv) (t.map fun x => if x.1 = n then (x.1, a, b) else x)
  | [], [], _ => trivial
  | (k, v) :: r, (k', a', b') :: q, ⟨e, hv, hr⟩ => by
    subst e
    have ih := TabAtP.map (n := n) hp hr
    by_cases hk : k = n
    · simp only [List.map_cons, hk, if_true]; exact ⟨rfl, ⟨p, ta, tb, rfl, hp⟩, ih⟩
    · simp only [List.map_cons, hk, if_false]; exact ⟨rfl, hv, ih⟩
theorem TabAtP.snoc {h : Heap} {n a b : Int} {p : Addr} {ta tb : Tok} (hp : h.IsTuple p [.int a ta, .int b tb].toArray) : ∀ {kvs : List (Int × Value)} {t : Tab}, TabAtP h kvs t →
    TabAtP h (kvs ++ [(n, .ref p)]) (t ++ [(n, a, b)])
  | [], [], _ => ⟨rfl, ⟨p, ta, tb, rfl, hp⟩, trivial⟩
  | (k, v) :: r, (k', a', b') :: q, ⟨e, hv, hr⟩ => ⟨e, hv, TabAtP.snoc hp hr⟩
theorem TabAtP.put {h : Heap} {n a b : Int} {p : Addr} {ta tb : Tok} (hp : h.IsTuple p [.int a ta, .int b tb].toArray) {kvs : List (Int × Value)} {t : Tab} (x : TabAtP h kvs t) : TabAtP h (stored kvs n (.ref p)) (putT t n a b) := by
  unfold stored putT
  rw [TabAtP.any n x]
  split
  · exact TabAtP.map hp x
  · exact TabAtP.snoc hp x
theorem putT_len (t : Tab) (k a b : Int) : (putT t k a b).length ≤ t.length + 1 := by unfold putT; split <;> simp
theorem stepR_len (below syms : List Int) (done most held : Int) (later : Tab) (r : Nat) : (stepR below syms done most held later r).length ≤ later.length + 1 := by
  unfold stepR
  split
  · split
    · exact putT_len _ _ _ _
    · exact Nat.le_succ _
  · exact Nat.le_succ _
theorem foldR_len (below syms : List Int) (done most held : Int) : ∀ (rs : List Nat) (later : Tab), (rs.foldl (stepR below syms done most held) later).length ≤ later.length + rs.length
  | [], _ => Nat.le_refl _
  | r :: rs, later => by
    have := foldR_len below syms done most held rs (stepR below syms done most held later r)
    have := stepR_len below syms done most held later r
    simp only [List.foldl_cons, List.length_cons]; omega
theorem foldD_len (below syms : List Int) : ∀ (xs : Tab) (later : Tab), (xs.foldl (stepD below syms) later).length ≤ later.length + 7 * xs.length
  | [], _ => Nat.le_refl _
  | x :: xs, later => by
    have := foldD_len below syms xs (stepD below syms later x)
    have h2 : (stepD below syms later x).length ≤ later.length + 7 := by
      have := foldR_len below syms x.1 x.2.1 x.2.2 (List.range 7) later
      simpa [stepD] using this
    simp only [List.foldl_cons, List.length_cons]; omega
theorem leastT_len (below syms : List Int) : ∀ i : Nat, (leastT below syms i).length ≤ 7 ^ i
  | 0 => Nat.le_refl _
  | i + 1 => by
    have h1 := leastT_len below syms i
    have h2 := foldD_len below syms (leastT below syms i) []
    show (List.foldl (stepD below syms) [] (leastT below syms i)).length ≤ _
    rw [Nat.pow_succ]
    simp only [List.length_nil] at h2
    omega

/-- one's own goes into the ground -/
theorem St.settle {s₀ s : Shared} {g : Heap} {env : Env} {oc : List (Str × Addr)} {m : Str → Option Value} {pre post : Own} {a : Addr} {P : Obj → Prop} (X : St s₀ g env oc m (pre ++ (a, P) :: post) s) :
    ∃ g' o, Ext g g' ∧ St s₀ g' env oc m (pre ++ post) s ∧ g'.get? a = some o ∧ P o := by
  have hm : (a, P) ∈ pre ++ (a, P) :: post := List.mem_append_right _ (.head _)
  obtain ⟨o, e, q⟩ := X.mine _ hm
  obtain ⟨g', hg, Y, up⟩ := (X.drop_own (own' := pre ++ post) ((List.Sublist.refl _).append (List.sublist_cons_self _ _))).ground
  have hap := List.pairwise_append.mp X.aO
  refine ⟨g', o, hg, Y, up a o e (X.gO _ hm).2.1 (fun n c e' q' => (X.gO _ hm).2.2 n c e' q'.symm) fun p hp q' => ?_, q⟩
  rcases List.mem_append.mp hp with z | z
  · exact hap.2.2 p z (a, P) (.head _) q'
  · exact (List.pairwise_cons.mp hap.2.1).1 p z q'.symm
/-! part G13 -/
/-- what holds at the loops' turns -/
inductive LeastJ1 (prog : Program) (w : World) (ba sa : Addr) (below syms : List Int) (i : Nat) (gi : Heap) (m' : Str → Option Value) (own' : Own) : Prop
  | mk (h0 : own' = []) (db : Addr) (ob : Obj) (kvs : List (Int × Value)) (h1 : m' "below" = some (.ref ba)) (h2 : m' "symbols" = some (.ref sa)) (h3 : m' "best" = some (.ref db)) (h4 : (db == sysModules) = false) (h5 : gi.get? db = some ob) (h6 : dictP prog w kvs ob)
      (h7 : TabAtP gi kvs (leastT below syms i)) : LeastJ1 prog w ba sa below syms i gi m' own'
inductive LeastJ2 (prog : Program) (w : World) (ba sa db dl : Addr) (below syms : List Int) (i j : Nat) (gj : Heap) (m' : Str → Option Value) (own' : Own) : Prop
  | mk (lkv : List (Int × Value)) (h0 : own' = [(dl, dictP prog w lkv)]) (h1 : m' "below" = some (.ref ba)) (h2 : m' "symbols" = some (.ref sa)) (h3 : m' "best" = some (.ref db)) (h4 : m' "later" = some (.ref dl))
      (h5 : TabAtP gj lkv (((leastT below syms i).take j).foldl (stepD below syms) [])) : LeastJ2 prog w ba sa db dl below syms i j gj m' own'
inductive LeastJ3 (prog : Program) (w : World) (ba sa db dl : Addr) (below syms : List Int) (i j : Nat) (key most held : Int) (tkey tmost theld : Tok) (r : Nat) (gr : Heap) (m' : Str → Option Value) (own' : Own) : Prop
  | mk (lkv : List (Int × Value)) (h0 : own' = [(dl, dictP prog w lkv)]) (h1 : m' "below" = some (.ref ba)) (h2 : m' "symbols" = some (.ref sa)) (h3 : m' "best" = some (.ref db)) (h4 : m' "later" = some (.ref dl))
      (h5 : m' "done" = some (.int key tkey)) (h6 : m' "most" = some (.int most tmost)) (h7 : m' "held" = some (.int held theld))
      (h8 : TabAtP gr lkv ((List.range r).foldl (stepR below syms key most held) (((leastT below syms i).take j).foldl (stepD below syms) []))) : LeastJ3 prog w ba sa db dl below syms i j key most held tkey tmost theld r gr m' own'
set_option maxHeartbeats 4000000 in
theorem least_spec {prog : Program} {w : World} {A : Around} {E : Value → Shared → Prop} {s : Shared} {ba sa : Addr} {vb vs : List Value} {below syms : List Int} {ra rb : Int} {Q : Value → Shared → Prop} {d : Nat}
    (B : Base w s.heap) (R : Room A (d + 2)) (hb : s.heap.IsList ba vb.toArray) (hs : s.heap.IsList sa vs.toArray) (ib : IntsAre vb below) (is : IntsAre vs syms) (lb : below.length = 7) (ls : syms.length = 7)
    (hres : lkT (leastT below syms 7) 127 = some (ra, rb))
    (h : ∀ p t u s', Keeps s s' → s'.heap.IsTuple p [.int ra t, .int rb u].toArray → Q (.ref p) s') : wpAny (model prog w) A (call (.ref 174) [.ref ba, .ref sa]) Q E s := by
  refine enterF fnLeast [("below", .ref ba), ("symbols", .ref sa)] B R ?hcd ?hbind ?hclo ?hkinds ?hcells ?hco ?hgen ?hk ?_
  ((case hcd => rfl); (case hbind => rfl); (case hclo => rfl); (case hkinds => rfl); (case hcells => rfl); (case hco => rfl); (case hgen => rfl); (case hk => rfl))
  intro L A' s₁ R' B₁ X
  rw [bdLeast.2]; dsimp only [bdLeast]
  have lvs : vs.length = 7 := is.length.trans ls
  have lvb : vb.length = 7 := ib.length.trans lb
  walk_at "st"
  walk_at "st"
  refine dict1 B₁ fun d1 sP o1 kP hd1 hds1 eo1 po1 => ?_
  have XP := X.push_own (P := dictP prog w []) hd1 kP eo1 po1
  (repeat (walk_at "st"))
  refine tuple_disp ?_
  (repeat (walk_at "st"))
  refine ⟨sz_of (show 2 ≤ 1000 by decide), fun p2 s₂ k₂ hn2 ht2 => ?_⟩
  have kk : Keeps sP s₂ := Keeps.trans ⟨_, _, rfl, fun _ _ e => e⟩ k₂
  obtain ⟨g2, hg2, hin2, X2⟩ := XP.grow kk
  refine ⟨0, _, rfl, kk, fun h' tk o' hk' eo' po' => ?_⟩
  have X3 := X2.set_own (pre := []) (tk := tk) (P' := dictP prog w [(0, .ref p2)]) hk' eo' po'
  (first | (refine' put_l ?xz32 ?kz32 ?_ ?hlz32 ?hkz32 ?hocz32; (case xz32 => assumption); (case hlz32 => rfl); (case hocz32 => rfl); (case hkz32 => rfl); (case kz32 => walk_at "kp")) | (refine' put_c ?xz32 ?kz32 ?_ ?hlz32 ?hkz32 ?hocz32 ?hez32; (case xz32 => assumption); (case hlz32 => rfl); (case hocz32 => rfl); (case hez32 => rfl); (case hkz32 => rfl); (case kz32 => walk_at "kp")))
  intro s₄ X4
  try dsimp only
  obtain ⟨g4, ob, hg4, X4', ebest, pbest⟩ := X4.settle (pre := []) (post := [])
  obtain ⟨o2, eo2, r2⟩ := ht2
  have ht2g : g4.IsTuple p2 _ := ⟨o2, hg4 _ _ (hin2 _ _ eo2 hn2), r2⟩
  clear X4 X3 X2 XP
  have B4 := B.keeps (hg2.trans (hg4.trans X4'.keep))
  walk_at "st"
  (refine for_mk ?_ ?hkz33 ?hsz33 ?hEz33; (case hkz33 => rfl); (case hsz33 => intro _; rfl); (case hEz33 => exact PassesOwn.never))
  (repeat (walk_at "st"))
  refine len_k (isList_keeps hs (hg2.trans (hg4.trans X4'.keep))) (by rw [lvs, sizeLine_eq]; decide) fun t5 s₅ k₅ e₅ => ?_
  rw [lvs]
  have X5 := X4'.keeps k₅
  (repeat (walk_at "st"))
  refine range1 fun r6 s₆ k₆ hr6 => ?_
  have X6 := X5.keeps k₆
  refine ⟨_, _, _, _, [], [], _, _, _, LeastJ1 prog w ba sa below syms, X6,
    iterS_r0 (n := 7) R'.hh hr6 rfl (by decide), by simp, by (exact .inl ⟨rfl, hoc_of rfl⟩), ⟨rfl, _, _, _, by walk_at "mv", by walk_at "mv", by walk_at "mv", hds1, ebest, pbest, ⟨rfl, ⟨_, _, _, rfl, ht2g⟩, trivial⟩⟩, ?_, ?_⟩
  · intro i gi m' own' v I oI s₇ hi hg hJ hP X7
    obtain ⟨rfl, db, ob', kvs, e1, e2, e3, hdb, eob, pob, htab⟩ := hJ
    obtain ⟨ti, rfl⟩ := hP
    have k07 : Ext s.heap gi := hg2.trans (hg4.trans hg)
    have B7 := B.keeps (k07.trans X7.keep)
    have hlen := htab.len
    have hll := leastT_len below syms i
    have hpow : 7 ^ i ≤ 117649 := by
      have : i ≤ 6 := by omega
      exact Nat.le_trans (Nat.pow_le_pow_right (by decide) this) (by decide)
    refine hideQ fun Qa hQa => ?_
    walk_at "st"
    walk_at "st"
    refine dict0 B7 fun dl s₈ ol k₈ hdl hdsl eol pol => ?_
    have X8 := X7.push_own (P := dictP prog w []) hdl k₈ eol pol
    (first | (refine' put_l ?xz34 ?kz34 ?_ ?hlz34 ?hkz34 ?hocz34; (case xz34 => assumption); (case hlz34 => rfl); (case hocz34 => rfl); (case hkz34 => rfl); (case kz34 => walk_at "kp")) | (refine' put_c ?xz34 ?kz34 ?_ ?hlz34 ?hkz34 ?hocz34 ?hez34; (case xz34 => assumption); (case hlz34 => rfl); (case hocz34 => rfl); (case hez34 => rfl); (case hkz34 => rfl); (case kz34 => walk_at "kp")))
    intro s₉ X9
    try dsimp only
    walk_at "st"
    (refine for_mk ?_ ?hkz35 ?hsz35 ?hEz35; (case hkz35 => rfl); (case hsz35 => intro _; rfl); (case hEz35 => exact PassesOwn.never))
    walk_at "st"
    have hd9 : s₉.heap.DictOf (intKind prog w) db kvs := Heap.dictOf_iff.mpr ⟨ob', X9.keep _ _ eob, pob⟩
    refine ⟨_, _, _, _, [(dl, dictP prog w [])], [(I, (· = oI))], _, _, _, LeastJ2 prog w ba sa db dl below syms i, X9, iterS_dict R'.hh hdb hd9, by simpa using ⟨ob', eob⟩, by (exact .inl ⟨rfl, hoc_of rfl⟩), ⟨_, rfl, by walk_at "mv", by walk_at "mv", by walk_at "mv", by walk_at "mv", trivial⟩, ?_, ?_⟩
    · intro j gj m'' own'' v J oJ s₁₀ hj hgj hJ2 hP2 X10
      obtain ⟨lkv, rfl, f1, f2, f3, f4, htl⟩ := hJ2
      obtain ⟨key, xv, tkey, ekv, rfl⟩ := hP2
      obtain ⟨most, held, pp, tmost, theld, etab, rfl, hpp⟩ := htab.get2 ekv
      have hnod : (kvs.map (·.1)).Nodup := by obtain ⟨_, _, _, _, _, _, z⟩ := pob; exact z
      have hd10 : s₁₀.heap.DictOf (intKind prog w) db kvs := Heap.dictOf_iff.mpr ⟨ob', X10.keep _ _ (hgj _ _ eob), pob⟩
      have k010 : Ext s.heap gj := k07.trans hgj
      refine hideQ fun Qb hQb => ?_
      walk_at "st"
      refine Assign_Tuple ?_
      (repeat (walk_at "st"))
      refine getd_k hd10 (valueAt_of_get hnod ekv) ?_ rfl
      refine pair_st R'.hh X10 (keeps_tok _ _) (isTuple_keeps hpp (hgj.trans X10.keep)) (fun s₁₁ X11 => ?_) rfl rfl rfl rfl rfl
      have B11 := B.keeps (k010.trans X11.keep)
      try dsimp only
      walk_at "st"
      (refine for_mk ?_ ?hkz36 ?hsz36 ?hEz36; (case hkz36 => rfl); (case hsz36 => intro _; rfl); (case hEz36 => exact PassesOwn.never))
      (repeat (walk_at "st"))
      refine len_k (isList_keeps hs (k010.trans X11.keep)) (by rw [lvs, sizeLine_eq]; decide) fun t12 s₁₂ k₁₂ e₁₂ => ?_
      rw [lvs]
      have X12 := X11.keeps k₁₂
      (repeat (walk_at "st"))
      refine range1 fun r13 s₁₃ k₁₃ hr13 => ?_
      have X13 := X12.keeps k₁₃
      have hjl : ((leastT below syms i).take j).length ≤ 117649 := by rw [List.length_take]; omega
      have hl0 := foldD_len below syms ((leastT below syms i).take j) []
      refine ⟨_, _, _, _, [(dl, dictP prog w lkv)], [(J, (· = oJ)), (I, (· = oI))], _, _, _, LeastJ3 prog w ba sa db dl below syms i j key most held tkey tmost theld, X13,
        iterS_r0 (n := 7) R'.hh hr13 rfl (by decide), by simp, by (exact .inl ⟨rfl, hoc_of rfl⟩), ⟨_, rfl, by walk_at "mv", by walk_at "mv", by walk_at "mv", by walk_at "mv", by walk_at "mv", by walk_at "mv", by walk_at "mv", htl⟩, ?_, ?_⟩
      · intro r gr m3 own3 v K oK s₁₄ hr hgr hJ3 hP3 X14
        obtain ⟨lkv, rfl, f1, f2, f3, f4, f5, f6, f7, htl⟩ := hJ3
        obtain ⟨tr, rfl⟩ := hP3
        have hlr := foldR_len below syms key most held (List.range r) (((leastT below syms i).take j).foldl (stepD below syms) [])
        rw [List.length_range] at hlr
        simp only [List.length_nil] at hl0
        have hlkv := htl.len
        have efold : (List.range (r + 1)).foldl (stepR below syms key most held) (((leastT below syms i).take j).foldl (stepD below syms) []) = stepR below syms key most held ((List.range r).foldl (stepR below syms key most held) (((leastT below syms i).take j).foldl (stepD below syms) [])) r := by
          rw [List.range_succ, List.foldl_append]; rfl
        generalize (List.range r).foldl (stepR below syms key most held) (((leastT below syms i).take j).foldl (stepD below syms) []) = lt at *
        have k014 : Ext s.heap gr := k010.trans hgr
        have B14 := B.keeps (k014.trans X14.keep)
        have hb14 := isList_keeps hb (k014.trans X14.keep)
        have hs14 := isList_keeps hs (k014.trans X14.keep)
        obtain ⟨tbr, ebr⟩ := IntsAre.get' ib (get_lk (d := 0) (by omega : r < below.length))
        obtain ⟨tsr, esr⟩ := IntsAre.get' is (get_lk (d := 0) (by omega : r < syms.length))
        have hp2 : (2 : Int) ^ ((r : Int)).toNat = 2 ^ r := by rw [Int.toNat_natCast]
        have hp0 : (0 : Int) < 2 ^ r := Int.pow_pos (by decide)
        have hp1 : (2 : Int) ^ r ≤ 64 := (by decide : ∀ i : Fin 7, (2 : Int) ^ i.val ≤ 64) ⟨r, by omega⟩
        refine hideQ fun Qc hQc => ?_
        walk_at "st"
        walk_at "st"
        refine wpAny_mono (Q := fun b s₂ => b = freeB below key r ∧ Keeps s₁₄ s₂) ?_ (fun b s₁₅ hq => ?_) (fun _ _ e => e)
        · (repeat (walk_at "st"))
          refine pow_int_small (by omega) (by omega) (by decide) ?_
          refine floordiv_int (by rw [hp2]; omega) ?_ (hp := .inl (PyProof.noPylong_small (by rw [hp2]; omega)))
          (repeat (walk_at "st"))
          refine mod_int' (by decide) ?_
          (repeat (walk_at "st"))
          have e0 : ((key.fdiv (2 ^ ((r : Int)).toNat)).fmod 2 == 0) = decide (key / 2 ^ r % 2 = 0) := by
            rw [hp2, Int.fdiv_eq_ediv_of_nonneg _ (Int.le_of_lt hp0), Int.fmod_eq_emod_of_nonneg _ (by decide)]
            by_cases hz : key / 2 ^ r % 2 = 0
            · rw [hz]; rfl
            · rw [decide_eq_false hz]; simpa using hz
          rw [e0]
          by_cases hz : key / 2 ^ r % 2 = 0
          · rw [if_pos (by simpa using hz)]
            (repeat (walk_at "st"))
            refine item_n hb14 (by omega) ebr ?_ rfl
            refine and_int ?_
            (repeat (walk_at "st"))
            refine item_n hb14 (by omega) ebr ?_ rfl
            (repeat (walk_at "st"))
            have e2 : freeB below key r = (Builtin.bitAnd key (below.getD r 0) == below.getD r 0) := by
              unfold freeB
              rw [decide_eq_true hz, Bool.true_and]
              rw [Bool.eq_iff_iff, decide_eq_true_eq, beq_iff_eq]
            cases hq : (Builtin.bitAnd key (below.getD r 0) == below.getD r 0) with
            | true =>
              rw [if_pos rfl]
              (repeat (walk_at "st"))
              exact ⟨by rw [e2, hq], keeps_tok _ _⟩
            | false =>
              rw [if_neg (by decide)]
              exact ⟨by rw [e2, hq], keeps_tok _ _⟩
          · rw [if_neg (by simpa using hz)]
            exact ⟨by unfold freeB; rw [decide_eq_false hz, Bool.false_and], keeps_tok _ _⟩
        · obtain ⟨rfl, k15⟩ := hq
          have X15 := X14.keeps k15
          have B15 := B.keeps (k014.trans X15.keep)
          have hs15 := isList_keeps hs (k014.trans X15.keep)
          cases hfree : freeB below key r with
          | false =>
            rw [if_neg (by decide)]
            (repeat (walk_at "st"))
            refine hQc _ _ ?_
            refine ⟨_, _, [(dl, dictP prog w lkv)], Ext.refl _, ⟨_, rfl, by walk_at "mv", by walk_at "mv", by walk_at "mv", by walk_at "mv", by walk_at "mv", by walk_at "mv", by walk_at "mv", ?_⟩, X15⟩
            rw [efold]
            unfold stepR
            rw [if_neg (by rw [hfree]; decide)]
            exact htl
          | true =>
            rw [if_pos rfl]
            walk_at "st"
            walk_at "st"
            walk_at "st"
            walk_at "st"
            walk_at "st"
            walk_at "st"
            walk_at "st"
            refine wpAny_mono (Q := fun v s' => ∃ t, v = .int (cost (syms.getD r 0)) t ∧ Keeps s₁₅ s') ?_ (fun v s₁₇ hv => ?_) (fun _ _ e => e)
            · (repeat (walk_at "st"))
              refine call_own fnIst B15 ?_ rfl
              (repeat (walk_at "st"))
              refine item_n hs15 (by omega) esr ?_ rfl
              (repeat (walk_at "st"))
              refine ⟨B15, ?_⟩
              refine ist_spec B15 R' fun s₁₆ k₁₆ => ?_
              have k1516 := Keeps.trans (keeps_tok s₁₅ _) k₁₆
              have X16 := X15.keeps k1516
              have hs16 := isList_keeps hs (k014.trans X16.keep)
              (repeat (walk_at "st"))
              by_cases hc : syms.getD r 0 < 256
              · rw [if_pos (by simpa using hc)]
                (repeat (walk_at "st"))
                exact ⟨_, by unfold cost; rw [if_pos hc], Keeps.trans k1516 (keeps_tok _ _)⟩
              · rw [if_neg (by simpa using hc)]
                (repeat (walk_at "st"))
                refine item_n hs16 (by omega) esr ?_ rfl
                (repeat (walk_at "st"))
                exact ⟨_, by unfold cost; rw [if_neg hc], Keeps.trans k1516 (keeps_tok _ _)⟩
            · obtain ⟨tc, rfl, k17⟩ := hv
              have X17 := X15.keeps k17
              (repeat (walk_at "st"))
              (first | (refine' put_l ?xz37 ?kz37 ?_ ?hlz37 ?hkz37 ?hocz37; (case xz37 => assumption); (case hlz37 => rfl); (case hocz37 => rfl); (case hkz37 => rfl); (case kz37 => walk_at "kp")) | (refine' put_c ?xz37 ?kz37 ?_ ?hlz37 ?hkz37 ?hocz37 ?hez37; (case xz37 => assumption); (case hlz37 => rfl); (case hocz37 => rfl); (case hez37 => rfl); (case hkz37 => rfl); (case kz37 => walk_at "kp")))
              intro s₁₈ X18
              try dsimp only
              (repeat (walk_at "st"))
              refine pow_int_small (by omega) (by omega) (by decide) ?_
              rw [hp2]
              (repeat (walk_at "st"))
              (first | (refine' put_l ?xz38 ?kz38 ?_ ?hlz38 ?hkz38 ?hocz38; (case xz38 => assumption); (case hlz38 => rfl); (case hocz38 => rfl); (case hkz38 => rfl); (case kz38 => walk_at "kp")) | (refine' put_c ?xz38 ?kz38 ?_ ?hlz38 ?hkz38 ?hocz38 ?hez38; (case xz38 => assumption); (case hlz38 => rfl); (case hocz38 => rfl); (case hez38 => rfl); (case hkz38 => rfl); (case kz38 => walk_at "kp")))
              intro s₁₉ X19
              try dsimp only
              generalize hnow : held + 1 - cost (syms.getD r 0) = now at *
              generalize hnew : key + (2 : Int) ^ r = new at *
              have htl19 := htl.keeps X19.keep
              have hd19 := X19.own_dict (Keeps.refl _) (.head _)
              walk_at "st"
              walk_at "st"
              refine wpAny_mono (Q := fun b s' => b = putsB lt new (max most now) ∧ Keeps s₁₉ s') ?_ (fun b s₂₀ hb' => ?_) (fun _ _ e => e)
              · (repeat (walk_at "st"))
                refine notind_k hdsl hd19 ?_
                (repeat (walk_at "st"))
                have hlk := htl19.lk new
                cases hl : lkT lt new with
                | none =>
                  rw [hl] at hlk
                  rw [hlk]
                  rw [if_pos (by rfl)]
                  exact ⟨by unfold putsB; rw [hl], keeps_tok _ _⟩
                | some ab =>
                  obtain ⟨va, vbb⟩ := ab
                  rw [hl] at hlk
                  obtain ⟨pq, tq1, tq2, evq, hpq⟩ := hlk
                  rw [evq]
                  rw [if_neg (by simp)]
                  (repeat (walk_at "st"))
                  refine getd_k hd19 evq ?_ rfl
                  (repeat (walk_at "st"))
                  refine item_t hpq (by decide) (by decide) rfl ?_ rfl
                  have B19 := B.keeps (k014.trans X19.keep)
                  (repeat (walk_at "st"))
                  refine max2 R'.hh fun tm s₂₁ k₂₁ => ?_
                  (repeat (walk_at "st"))
                  have kfin : Keeps s₁₉ s₂₁ := Keeps.trans ⟨_, _, rfl, fun _ _ e => e⟩ k₂₁
                  by_cases hgt : max most now < va
                  · rw [if_pos (by simpa using hgt)]
                    exact ⟨by unfold putsB; rw [hl]; simpa using hgt, kfin⟩
                  · rw [if_neg (by simpa using hgt)]
                    (repeat (walk_at "st"))
                    exact ⟨by unfold putsB; rw [hl]; simpa using hgt, kfin⟩
              · obtain ⟨rfl, k20⟩ := hb'
                have X20 := X19.keeps k20
                have B20 := B.keeps (k014.trans X20.keep)
                cases hput : putsB lt new (max most now) with
                | false =>
                  rw [if_neg (by decide)]
                  (repeat (walk_at "st"))
                  refine hQc _ _ ?_
                  refine ⟨_, _, [(dl, dictP prog w lkv)], Ext.refl _, ⟨_, rfl, by walk_at "mv", by walk_at "mv", by walk_at "mv", by walk_at "mv", by walk_at "mv", by walk_at "mv", by walk_at "mv", ?_⟩, X20⟩
                  rw [efold]
                  unfold stepR
                  rw [if_pos hfree, hnow, hnew, if_neg (by rw [hput]; decide)]
                  exact htl
                | true =>
                  rw [if_pos rfl]
                  walk_at "st"
                  refine wpAny_Assign_Subscript ?_ rfl
                  refine tuple_disp ?_
                  (repeat (walk_at "st"))
                  refine max2 R'.hh fun tm s₂₁ k₂₁ => ?_
                  have X21 := X20.keeps k₂₁
                  (repeat (walk_at "st"))
                  refine ⟨sz_of (show 2 ≤ 1000 by decide), fun p22 s₂₂ k₂₂ hn22 ht22 => ?_⟩
                  obtain ⟨g22, hg22, hin22, X22⟩ := X21.grow k₂₂
                  obtain ⟨o22, eo22, r22⟩ := ht22
                  have ht22g : g22.IsTuple p22 _ := ⟨o22, hin22 _ _ eo22 hn22, r22⟩
                  (repeat (walk_at "st"))
                  refine setd_own (pre := []) X22 (Keeps.refl _) (by rw [hlkv, sizeLine_eq]; omega) fun s₂₃ X23 => ?_
                  try dsimp only
                  (repeat (walk_at "st"))
                  refine hQc _ _ ?_
                  refine ⟨_, _, [(dl, dictP prog w (stored lkv new (.ref p22)))], hg22, ⟨_, rfl, by walk_at "mv", by walk_at "mv", by walk_at "mv", by walk_at "mv", by walk_at "mv", by walk_at "mv", by walk_at "mv", ?_⟩, X23⟩
                  rw [efold]
                  unfold stepR
                  rw [if_pos hfree, hnow, hnew, if_pos hput]
                  exact TabAtP.put ht22g (htl.keeps hg22)
      · intro gr m3 own3 s₁₄ hgr hJ3 X14
        obtain ⟨lkv, rfl, f1, f2, f3, f4, f5, f6, f7, htl⟩ := hJ3
        try dsimp only
        (repeat (walk_at "st"))
        refine hQb _ _ ?_
        refine ⟨_, _, [(dl, dictP prog w lkv)], hgr, ⟨_, rfl, by walk_at "mv", by walk_at "mv", by walk_at "mv", by walk_at "mv", ?_⟩, X14⟩
        rw [take_snoc etab, List.foldl_append]
        exact htl
    · intro gj m'' own'' s₁₀ hgj hJ2 X10
      obtain ⟨lkv, rfl, f1, f2, f3, f4, htl⟩ := hJ2
      try dsimp only
      rw [hlen, List.take_length] at htl
      (repeat (walk_at "st"))
      (first | (refine' put_l ?xz39 ?kz39 ?_ ?hlz39 ?hkz39 ?hocz39; (case xz39 => assumption); (case hlz39 => rfl); (case hocz39 => rfl); (case hkz39 => rfl); (case kz39 => walk_at "kp")) | (refine' put_c ?xz39 ?kz39 ?_ ?hlz39 ?hkz39 ?hocz39 ?hez39; (case xz39 => assumption); (case hlz39 => rfl); (case hocz39 => rfl); (case hez39 => rfl); (case hkz39 => rfl); (case kz39 => walk_at "kp")))
      intro s₁₁ X11
      try dsimp only
      (repeat (walk_at "st"))
      refine hQa _ _ ?_
      obtain ⟨g11, ob11, hg11, X11', eb11, pb11⟩ := X11.settle (pre := []) (post := [(I, (· = oI))])
      exact ⟨g11, _, [], hgj.trans hg11, ⟨rfl, dl, ob11, lkv, by walk_at "mv", by walk_at "mv", by walk_at "mv", hdsl, eb11, pb11, htl.keeps hg11⟩, X11'⟩
  · intro gi m' own' s₇ hg hJ X7
    obtain ⟨rfl, db, ob', kvs, e1, e2, e3, hdb, eob, pob, htab⟩ := hJ
    have k07 : Ext s.heap gi := hg2.trans (hg4.trans hg)
    have B7 := B.keeps (k07.trans X7.keep)
    try dsimp only
    (repeat (walk_at "st"))
    refine len_k (isList_keeps hs (k07.trans X7.keep)) (by rw [lvs, sizeLine_eq]; decide) fun t8 s₈ k₈ e₈ => ?_
    rw [lvs]
    have X8 := X7.keeps k₈
    (repeat (walk_at "st"))
    refine pow_int_small (by decide) (by decide) (by decide) ?_
    (repeat (walk_at "st"))
    have hlk := htab.lk 127
    rw [hres] at hlk
    obtain ⟨p, t1, t2, ev, hp⟩ := hlk
    have hd8 : s₈.heap.DictOf (intKind prog w) db kvs := Heap.dictOf_iff.mpr ⟨ob', X8.keep _ _ eob, pob⟩
    refine getd_k (n := (2 : Int) ^ ((7 : Nat) : Int).toNat - 1) hd8 ev ?_ rfl
    (repeat (walk_at "st"))
    exact h p t1 t2 _ (Keeps.trans (X8.done k07) ⟨_, _, rfl, fun _ _ e => e⟩) (isTuple_keeps hp X8.keep)
/-! part P3 -/
/-! the registers: symbols alone -/
noncomputable def dueC (up : List Int) (r : Nat) : Int := if up.contains (r : Int) then 255 + ((up.count (r : Int) : Nat) : Int) else 0
noncomputable def canonD (up : List Int) : List Int := (List.range 7).map (dueC up)
noncomputable def maxL : List Int → Int
  | [] => 0
  | x :: r => r.foldl max x
noncomputable def ershov (ps : List Int) : Int := maxL ((List.range ps.length).map fun k : Nat => ps.getD k 0 + ps.length - 1 - (k : Int))
noncomputable def popN (sym : Int) : Nat := (sym - 255).toNat
noncomputable def needStep (needs : List Int) (sym : Int) : Option (List Int) :=
  if 256 ≤ sym then
    if popN sym ≤ needs.length then some (needs.take (needs.length - popN sym) ++ [ershov (sortI (needs.drop (needs.length - popN sym)).reverse)]) else none
  else some (needs ++ [1])
noncomputable def needAt (D : List Int) : Nat → Option (List Int)
  | 0 => some []
  | i + 1 => (needAt D i).bind fun n => needStep n (D.getD (6 - i) 0)
noncomputable def belowAt (up : List Int) (r : Nat) : Int := (((List.range 7).filter fun q => decide (up.getD q 0 = (r : Int))).map fun q => (2 : Int) ^ q).sum
noncomputable def belowOf (up : List Int) : List Int := (List.range 7).map (belowAt up)
noncomputable def lastOf (needs : List Int) (below syms : List Int) : Bool :=
  match needs, lkT (leastT below syms 7) 127 with
  | [x], some (a, b) => decide (x = a) && decide (b = 1)
  | _, _ => false
noncomputable def upOk (up : List Int) : Bool := up.contains 0 && match needAt (canonD up) 7 with
  | some n => lastOf n (belowOf up) (canonD up)
  | none => false
theorem all_chunks {α : Type} (p : α → Bool) {n k : Nat} {l : List α} (hn : 0 < n) (hl : l.length ≤ n * k) (h : ∀ j, j < k → ((l.drop (n * j)).take n).all p = true) : l.all p = true := by
  rw [List.all_eq_true]
  intro x hx
  obtain ⟨i, hi, rfl⟩ := List.getElem_of_mem hx
  have hj : i / n < k := Nat.div_lt_of_lt_mul (by omega)
  have hd := Nat.div_add_mod i n
  have hm := Nat.mod_lt i hn
  refine List.all_eq_true.mp (h (i / n) hj) _ ?_
  refine List.mem_of_getElem? (i := i % n) ?_
  rw [List.getElem?_take_of_lt hm, List.getElem?_drop, hd, List.getElem?_eq_getElem hi]
noncomputable def chunk (j : Nat) : Bool := (((reach 6).drop (6 * j)).take 6).all fun x => upOk x.2
theorem chunk_a : chunk 0 = true := by decide +kernel
theorem chunk_b : chunk 1 = true := by decide +kernel
theorem chunk_c : chunk 2 = true := by decide +kernel
theorem chunk_d : chunk 3 = true := by decide +kernel
theorem chunk_e : chunk 4 = true := by decide +kernel
theorem chunk_f : chunk 5 = true := by decide +kernel
theorem chunk_g : chunk 6 = true := by decide +kernel
theorem chunk_h : chunk 7 = true := by decide +kernel
theorem chunk_i : chunk 8 = true := by decide +kernel
theorem chunk_j : chunk 9 = true := by decide +kernel
theorem chunk_k : chunk 10 = true := by decide +kernel
theorem chunk_l : chunk 11 = true := by decide +kernel
theorem chunk_m : chunk 12 = true := by decide +kernel
theorem chunk_n : chunk 13 = true := by decide +kernel
theorem chunk_o : chunk 14 = true := by decide +kernel
theorem chunk_p : chunk 15 = true := by decide +kernel
theorem chunk_q : chunk 16 = true := by decide +kernel
theorem chunk_r : chunk 17 = true := by decide +kernel
theorem chunk_s : chunk 18 = true := by decide +kernel
theorem chunk_t : chunk 19 = true := by decide +kernel
theorem chunk_u : chunk 20 = true := by decide +kernel
theorem chunk_v : chunk 21 = true := by decide +kernel
theorem chunk_all : ∀ j, j < 22 → chunk j = true
  | 0, _ => chunk_a
  | 1, _ => chunk_b
  | 2, _ => chunk_c
  | 3, _ => chunk_d
  | 4, _ => chunk_e
  | 5, _ => chunk_f
  | 6, _ => chunk_g
  | 7, _ => chunk_h
  | 8, _ => chunk_i
  | 9, _ => chunk_j
  | 10, _ => chunk_k
  | 11, _ => chunk_l
  | 12, _ => chunk_m
  | 13, _ => chunk_n
  | 14, _ => chunk_o
  | 15, _ => chunk_p
  | 16, _ => chunk_q
  | 17, _ => chunk_r
  | 18, _ => chunk_s
  | 19, _ => chunk_t
  | 20, _ => chunk_u
  | 21, _ => chunk_v
  | _ + 22, h => absurd h (by omega)
theorem reach_len : (reach 6).length ≤ 6 * 22 := by decide +kernel
theorem reach_ok : ((reach 6).all fun x => upOk x.2) = true := all_chunks _ (by decide) reach_len chunk_all
def dueLike (D up : List Int) : Prop := ∀ r, r < 7 → D.getD r 0 = dueC up r ∨ (D.getD r 0 < 256 ∧ dueC up r < 256)
theorem canon_get (up : List Int) {r : Nat} (h : r < 7) : (canonD up).getD r 0 = dueC up r := by
  unfold canonD
  simp [List.getD, h]
theorem needStep_like {n : List Int} {a b : Int} (h : a = b ∨ (a < 256 ∧ b < 256)) : needStep n a = needStep n b := by
  rcases h with rfl | ⟨h1, h2⟩
  · rfl
  · unfold needStep
    rw [if_neg (by omega), if_neg (by omega)]
theorem needAt_like {D up : List Int} (h : dueLike D up) : ∀ i, i ≤ 7 → needAt D i = needAt (canonD up) i
  | 0, _ => rfl
  | i + 1, hi => by
    unfold needAt
    rw [needAt_like h i (by omega)]
    congr 1
    funext n
    refine needStep_like ?_
    rw [canon_get up (by omega)]
    exact h (6 - i) (by omega)
theorem foldl_same {α β : Type} {f g : α → β → α} : ∀ (l : List β) (a : α), (∀ a, ∀ b ∈ l, f a b = g a b) → l.foldl f a = l.foldl g a
  | [], _, _ => rfl
  | b :: l, a, h => by
    rw [List.foldl_cons, List.foldl_cons, h a b (.head _)]
    exact foldl_same l _ fun a c hc => h a c (.tail _ hc)
theorem leastT_like {D up be : List Int} (h : dueLike D up) : ∀ i, leastT be D i = leastT be (canonD up) i
  | 0 => rfl
  | i + 1 => by
    show turnT be D _ = turnT be (canonD up) _
    rw [leastT_like h i]
    unfold turnT
    congr 1
    funext later x
    unfold stepD
    refine foldl_same _ _ fun a r hr => ?_
    have hr7 := List.mem_range.mp hr
    have e : cost (D.getD r 0) = cost ((canonD up).getD r 0) := by
      rw [canon_get up hr7]
      rcases h r hr7 with e | ⟨h1, h2⟩
      · rw [e]
      · unfold cost; rw [if_pos h1, if_pos h2]
    unfold stepR
    rw [e]
theorem up_take {cs : List (List Int)} (h7 : cs.length = 7) : (uponL cs).take 7 = uponL cs := List.take_of_length_le (by unfold uponL; simp; omega)
theorem upon_ok {cs : List (List Int)} (h7 : cs.length = 7) (h0 : ∀ q, 0 < q → q < cs.length → lessAt cs 0 q = true) : upOk (uponL cs) = true := by
  have := reach_of h0 6 (by omega)
  rw [up_take h7] at this
  exact List.all_eq_true.mp reach_ok _ this
theorem ershov_ok {cs : List (List Int)} {D : List Int} (h7 : cs.length = 7) (h0 : ∀ q, 0 < q → q < cs.length → lessAt cs 0 q = true) (h : dueLike D (uponL cs)) :
    (uponL cs).contains 0 = true ∧ ∃ x, needAt D 7 = some [x] ∧ lkT (leastT (belowOf (uponL cs)) D 7) 127 = some (x, 1) := by
  have ok := upon_ok h7 h0
  unfold upOk at ok
  rw [Bool.and_eq_true] at ok
  refine ⟨ok.1, ?_⟩
  have o2 := ok.2
  rw [← needAt_like h 7 (Nat.le_refl _)] at o2
  cases e : needAt D 7 with
  | none => rw [e] at o2; cases o2
  | some n =>
    rw [e] at o2
    simp only at o2
    unfold lastOf at o2
    rw [← leastT_like h 7] at o2
    split at o2
    · rename_i x a b e2
      rw [Bool.and_eq_true] at o2
      have h1 := of_decide_eq_true o2.1
      have h2 := of_decide_eq_true o2.2
      subst h1 h2
      exact ⟨_, rfl, e2⟩
    · cases o2
/-- how the run goes on: every step succeeds -/
theorem need_some {D : List Int} {x : Int} (h : needAt D 7 = some [x]) : ∀ i, i ≤ 7 → ∃ n, needAt D (7 - i) = some n
  | 0, _ => ⟨_, h⟩
  | i + 1, hi => by
    obtain ⟨n, e⟩ := need_some h i (by omega)
    rw [show 7 - i = (7 - (i + 1)) + 1 by omega] at e
    unfold needAt at e
    cases e2 : needAt D (7 - (i + 1)) with
    | none => rw [e2] at e; cases e
    | some m => exact ⟨m, rfl⟩
theorem need_at {D : List Int} {x : Int} (h : needAt D 7 = some [x]) {i : Nat} (hi : i < 7) : ∃ n n', needAt D i = some n ∧ needStep n (D.getD (6 - i) 0) = some n' ∧ needAt D (i + 1) = some n' := by
  obtain ⟨n, e⟩ := need_some h (7 - i) (by omega)
  obtain ⟨n', e'⟩ := need_some h (7 - (i + 1)) (by omega)
  rw [show 7 - (7 - i) = i by omega] at e
  rw [show 7 - (7 - (i + 1)) = i + 1 by omega] at e'
  refine ⟨n, n', e, ?_, e'⟩
  rw [← e']
  conv => rhs; unfold needAt
  rw [e]
  rfl
theorem needAt_len {D : List Int} : ∀ (i : Nat) {n : List Int}, needAt D i = some n → n.length ≤ i
  | 0, n, h => by
    unfold needAt at h; cases h; exact Nat.le_refl _
  | i + 1, n, h => by
    unfold needAt at h
    cases e : needAt D i with
    | none => rw [e] at h; cases h
    | some m =>
      rw [e] at h
      have hm := needAt_len i e
      have h' : needStep m (D.getD (6 - i) 0) = some n := h
      unfold needStep at h'
      split at h'
      · split at h'
        · cases h'; simp; omega
        · cases h'
      · cases h'; simp; omega
/-! part F15 -/
section
variable {prog : Program} {w : World} {A : Around} {E : Value → Shared → Prop} {s₀ s s' : Shared} {g : Heap} {env : Env} {oc : List (Str × Addr)} {m : Str → Option Value} {own pre post : Own} {x y : Str} {pos : Pos} {vs : List Value} {ns : List Int} {l : Addr}

/-- a slice of a list of ints -/
theorem slice_list_k {value : Expr} {lower upper : Option Expr} {p : Pos} {Q : Value → Shared → Prop}
    (h : wpAny (model prog w) A (eval value env) (fun o s₁ => wpAny (model prog w) A (evalPart lower env) (fun vl s₂ => wpAny (model prog w) A (evalPart upper env) (fun vu s₃ =>
      ∃ l vs ns lo hi, o = .ref l ∧ s₃.heap.IsList l vs.toArray ∧ IntsAre vs ns ∧ vs.length ≤ sizeLine ∧ IsPart vl lo ∧ IsPart vu hi ∧
        ∀ D vs' ns' s', Keeps s₃ s' → s₃.heap.get? D = none → s'.heap.PlainList D vs'.toArray → IntsAre vs' ns' → vs'.length ≤ vs.length → Q (.ref D) s') E s₂) E s₁) E s)
    (ht : ∀ o r, letTemporaryGo value o r = pure ()) :
    wpAny (model prog w) A (eval (.Subscript value (.Slice lower upper none p) pos) env) Q E s := by
  refine wpAny_Subscript_list_slice (wpAny_mono h (fun o s₁ h₁ => wpAny_mono h₁ (fun vl s₂ h₂ => wpAny_mono h₂ (fun vu s₃ h₃ => ?_) fun _ _ e => e) fun _ _ e => e) fun _ _ e => e) ht
  obtain ⟨l, vs, ns, lo, hi, rfl, hl, hi', hsz, pl, pu, hQ⟩ := h₃
  refine ⟨l, vs.toArray, lo, hi, rfl, hl, by simpa using hsz, pl, pu, ?_⟩
  have hs1 : (s₃.heap.push { cls := .type "slice", data := .fields #[vl, vu, .none] }).objs.size = s₃.heap.objs.size + 1 := Heap.size_push ..
  refine hQ _ (slicePick vs.toArray lo hi none).toList _ _ (Keeps.trans (Keeps.push _ _) (Keeps.push _ _)) (fresh_ge (Nat.le_succ _)) ⟨0, ?_⟩ (hi'.pick lo hi none) ?_
  · rw [← hs1, Array.toArray_toList]; exact Heap.get?_push_size _ rfl
  · have := slicePick_size_le vs.toArray lo hi none
    simpa using this

theorem sum_k {Q : Value → Shared → Prop} (hh : A.handled = none) (hl : s.heap.IsList l vs.toArray) (hi : IntsAre vs ns) (h : ∀ t s', Keeps s s' → Q (.int ns.sum t) s') : wpAny (model prog w) A (call (.builtin "sum") [.ref l]) Q E s := by
  obtain ⟨xs, hx⟩ := hi.allInts.items
  have hl' : s.heap.IsList l (intItems xs) := hx ▸ hl
  refine sum_intListG hh hl' fun h' tk t' hk => ?_
  have e1 : ns = xs.toList.map (·.1) := by
    rw [← nums_intItems, ← hx]
    exact (show numsOf vs.toArray.toList = ns from hi.numsOf).symm
  have e2 : preSum (numAt xs) xs.size = ns.sum := by
    rw [preSum_eq, List.take_of_length_le (by simp), e1]
  rw [e2]
  exact h t' _ ⟨h', tk, rfl, hk⟩

theorem max_fold : ∀ (l : List Int) (a : Int), (l.foldl max a = a ∨ l.foldl max a ∈ l) ∧ a ≤ l.foldl max a ∧ ∀ x ∈ l, x ≤ l.foldl max a
  | [], a => ⟨.inl rfl, Int.le_refl _, fun _ h => nomatch h⟩
  | b :: l, a => by
    obtain ⟨h1, h2, h3⟩ := max_fold l (max a b)
    rw [List.foldl_cons]
    refine ⟨?_, by omega, fun x hx => ?_⟩
    · rcases h1 with h1 | h1
      · rw [h1]
        by_cases q : a ≤ b
        · exact .inr (by rw [Int.max_eq_right q]; exact .head _)
        · exact .inl (Int.max_eq_left (by omega))
      · exact .inr (.tail _ h1)
    · rcases List.mem_cons.mp hx with rfl | hx
      · omega
      · exact h3 x hx
theorem maxL_eq {ns : List Int} {M : Int} (hm : M ∈ ns) (h : ∀ a ∈ ns, a ≤ M) : M = maxL ns := by
  cases ns with
  | nil => cases hm
  | cons a l =>
    obtain ⟨h1, h2, h3⟩ := max_fold l a
    show M = l.foldl max a
    have hle : M ≤ l.foldl max a := by
      rcases List.mem_cons.mp hm with rfl | hm
      · exact h2
      · exact h3 M hm
    have hge : l.foldl max a ≤ M := by
      rcases h1 with h1 | h1
      · rw [h1]; exact h a (.head _)
      · exact h _ (.tail _ h1)
    omega
theorem max_k {Q : Value → Shared → Prop} (hh : A.handled = none) (hl : s.heap.IsList l vs.toArray) (hi : IntsAre vs ns) (hne : 0 < ns.length) (h : ∀ t s', Keeps s s' → Q (.int (maxL ns) t) s') : wpAny (model prog w) A (call (.builtin "max") [.ref l]) Q E s := by
  obtain ⟨xs, e⟩ := hi.allInts.items
  have hns : ns = xs.toList.map (·.1) := by rw [← hi.numsOf, ← nums_intItems, ← e]
  have hsz : 0 < xs.size := by
    have h3 := hne; rw [hns, List.length_map, Array.length_toList] at h3; exact h3
  rw [e] at hl
  refine max_intList hh hl hsz fun v h' tk hv hk => ?_
  obtain ⟨t, rfl⟩ := intItems_at hv
  obtain ⟨h1, h2⟩ := argBest_gt (numAt xs) (xs.size - 1)
  have eM : numAt xs (argBest (fun i j => decide (numAt xs i > numAt xs j)) (xs.size - 1)) = maxL ns := by
    refine maxL_eq ?_ fun a ha => ?_
    · rw [hns, numAt_eq]; exact getD_mem (by rw [List.length_map, Array.length_toList]; omega)
    · rw [hns] at ha
      obtain ⟨j, hj, rfl⟩ := mem_getD ha
      rw [List.length_map, Array.length_toList] at hj
      rw [← numAt_eq]; exact h2 j (by omega)
  rw [eM]
  exact h t _ ⟨h', tk, rfl, hk⟩
theorem sorted_k {Q : Value → Shared → Prop} (hl : s.heap.IsList l vs.toArray) (hi : IntsAre vs ns) (h64 : vs.length < 64)
    (h : ∀ D vs' s', Keeps s s' → s.heap.get? D = none → s'.heap.PlainList D vs'.toArray → IntsAre vs' (sortI ns) → Q (.ref D) s') : wpAny (model prog w) A (call (.builtin "sorted") [.ref l]) Q E s := by
  refine sorted_ints hl hi h64 fun out ns' a1 a2 a3 => ?_
  obtain ⟨e, he⟩ := sortedAll_at s.heap vs out
  refine h _ out.toList _ ⟨_, s.toks, rfl, fun _ _ => sortedAll_old⟩ (fresh_ge (Nat.le_succ _)) ⟨e, ?_⟩ (eq_sortI a2 a3 ▸ a1)
  rw [Array.toArray_toList]; exact he
theorem getm_count {ys : Array Value} {pl : Sem Bool} {Q : Value × List Value → Shared → Prop} (hl : s.heap.PlainList l ys) (h : Q (.builtin "list.count", [.ref l]) s) : wpAny (model prog w) A (getMethod (.ref l) "count" pl) Q E s := by
  obtain ⟨n, e⟩ := hl
  exact getMethod_builtin ⟨_, e, rfl⟩ PySem.F.plainAttrs_list PySem.F.slot_list_count PySem.F.type_list_count (fun a q => by cases q; exact ⟨_, e, rfl⟩) h
theorem getm_pop {ys : Array Value} {pl : Sem Bool} {Q : Value × List Value → Shared → Prop} (hl : s.heap.PlainList l ys) (h : Q (.builtin "list.pop", [.ref l]) s) : wpAny (model prog w) A (getMethod (.ref l) "pop" pl) Q E s := by
  obtain ⟨n, e⟩ := hl
  exact getMethod_builtin ⟨_, e, rfl⟩ PySem.F.plainAttrs_list PySem.F.slot_list_pop PySem.F.type_list_pop (fun a q => by cases q; exact ⟨_, e, rfl⟩) h
theorem pop_own {ys : List Value} {y : Value} {Q : Value → Shared → Prop} (X : St s₀ g env oc m (pre ++ (l, listO (ys ++ [y])) :: post) s) (k : Keeps s s') (h : ∀ s'', St s₀ g env oc m (pre ++ (l, listO ys) :: post) s'' → Q y s'') (hn : ys.length + 1 ≤ sizeLine) :
    wpAny (model prog w) A (call (.builtin "list.pop") [.ref l]) Q E s' := by
  have X' := X.keeps k
  obtain ⟨n, e⟩ := X.own_list k (l := l) (ys := ys ++ [y]) (List.mem_append_right _ (.head _))
  refine Copied.pop_at (y := y) e (by simp) (fun h' hs ho => ?_) (by simpa using hn)
  refine h _ (St.set_own (tk := s'.toks) X' (P' := listO ys) (fun b o hb e => hs.extBut b o hb e) ho ⟨n + 1, by simp⟩)

/-- a while loop by an invariant that counts down -/
theorem while_mk {test : Expr} {body : List Stmt} {Q : Flow → Shared → Prop} (J : Nat → Shared → Prop) (n : Nat) (hE : PassesOwn (model prog w) A env E) (h0 : J n s)
    (turn : ∀ k s, J k s → wpAny (model prog w) A (isTrue test env (eval test env)) (fun b s₂ => if b = true then ∃ j, k = j + 1 ∧ wpAny (model prog w) A (execs body env) (fun f s₃ => match f with
      | .next | .cont => J j s₃
      | .brk => Q .next s₃
      | .ret v => Q (.ret v) s₃) E s₂ else Q .next s₂) E s) :
    wpAny (model prog w) A (exec (.While test body [] pos) env) Q E s := by
  refine whl_start n ?_
  have key : ∀ k s, J k s → WhlRest prog w A E env test body [] Q k s := by
    intro k
    induction k with
    | zero =>
      intro s hJ
      show WhlRest prog w A E env test body [] Q (0 + 1) s
      refine whl_turn hE (wpAny_mono (turn 0 s hJ) (fun b s₂ q => ?_) fun _ _ e => e)
      cases b with
      | false => exact WhlIf.no rfl (wpAny_execs_nil (by simpa using q))
      | true => rw [if_pos rfl] at q; obtain ⟨j, hj, _⟩ := q; cases hj
    | succ k ih =>
      intro s hJ
      refine whl_turn hE (wpAny_mono (turn (k + 1) s hJ) (fun b s₂ q => ?_) fun _ _ e => e)
      cases b with
      | false => exact WhlIf.no rfl (wpAny_execs_nil (by simpa using q))
      | true =>
        rw [if_pos rfl] at q
        obtain ⟨j, hj, q⟩ := q
        cases hj
        refine WhlIf.yes rfl (wpAny_mono q (fun f s₃ q' => ?_) fun _ _ e => e)
        cases f with
        | next => exact ih s₃ q'
        | cont => exact ih s₃ q'
        | brk => exact q'
        | ret v => exact q'
  exact key n s h0

/-- names for a tuple, one after the other -/
theorem mul_str3 {z : Nat} {t u : Tok} {Q : Value → Shared → Prop} (h : ∀ t' s', s'.heap = s.heap → Keeps s s' → Q (.str ⟨#[z, z, z]⟩ t') s') : wpAny (model prog w) A (binaryOp .Mult (.str ⟨#[z]⟩ t) (.int 3 u)) Q E s := by
  refine P.mul_str (by decide) (fun _ _ => by show ¬ (((1 : Nat) : Int) > _); decide) (fun _ _ => by with_unfolding_all rfl) ?_
  rw [if_neg (by decide), if_neg (by show ¬ ((false || ((1 : Nat) == 0)) = true); decide)]
  refine ⟨by show (3 : Nat) ≤ sizeLine; rw [sizeLine_eq]; decide, h _ _ rfl (keeps_tok _ _)⟩
end
/-! part F16 -/
section
variable {prog : Program} {w : World} {A : Around} {E : Value → Shared → Prop} {s₀ s s' : Shared} {g : Heap} {env : Env} {oc : List (Str × Addr)} {m : Str → Option Value} {own pre post : Own} {x y z u : Str} {px py pz pu pos : Pos}
/-- a pair for a cell and a local -/
theorem pair_cl {t c : Addr} {k : Nat} {a b : Value} {Q : Unit → Shared → Prop} (hh : A.handled = none) (X : St s₀ g env oc m own s) (kp : Keeps s s') (ht : s'.heap.IsTuple t [a, b].toArray)
    (h : ∀ s'', St s₀ g env oc (upd (upd m x a) y b) own s'' → Q () s'') (hx : env.kindOf x = some .cell) (hy : env.kindOf y = some .local) (hk : env.scope.kind = .function) (hox : oc.lookup x = some c) (hex : env.cells.lookup x = some c) (hoy : oc.lookup y = none) :
    wpAny (model prog w) A (assign (.Tuple [.Name x px, .Name y py] k pos) env (.ref t)) Q E s' := by
  refine wpAny_assign_Tuple hh ht rfl rfl fun h' he => ?_
  have X1 := X.keeps (Keeps.trans kp (keeps_of_ext he))
  show wpAny (model prog w) A (assignInOrder [assign (.Name x px) env, assign (.Name y py) env] [a, b]) Q E _
  refine wpAny_assignInOrder_more (assign_Name (store_c X1 (fun s1 Y1 => ?_) hx hox hex hk))
  refine wpAny_assignInOrder_more (assign_Name (store_l Y1 (fun s2 Y2 => ?_) hy hk (hoc_of hoy)))
  exact wpAny_assignInOrder_none (h _ Y2)
/-- four names, the third a cell -/
theorem four_st {t c : Addr} {k : Nat} {a b e f : Value} {Q : Unit → Shared → Prop} (hh : A.handled = none) (X : St s₀ g env oc m own s) (kp : Keeps s s') (ht : s'.heap.IsTuple t [a, b, e, f].toArray)
    (h : ∀ s'', St s₀ g env oc (upd (upd (upd (upd m x a) y b) z e) u f) own s'' → Q () s'') (hx : env.kindOf x = some .local) (hy : env.kindOf y = some .local) (hz : env.kindOf z = some .cell) (hu : env.kindOf u = some .local)
    (hk : env.scope.kind = .function) (hox : oc.lookup x = none) (hoy : oc.lookup y = none) (hoz : oc.lookup z = some c) (hez : env.cells.lookup z = some c) (hou : oc.lookup u = none) :
    wpAny (model prog w) A (assign (.Tuple [.Name x px, .Name y py, .Name z pz, .Name u pu] k pos) env (.ref t)) Q E s' := by
  refine wpAny_assign_Tuple hh ht rfl rfl fun h' he => ?_
  have X1 := X.keeps (Keeps.trans kp (keeps_of_ext he))
  show wpAny (model prog w) A (assignInOrder [assign (.Name x px) env, assign (.Name y py) env, assign (.Name z pz) env, assign (.Name u pu) env] [a, b, e, f]) Q E _
  refine wpAny_assignInOrder_more (assign_Name (store_l X1 (fun s1 Y1 => ?_) hx hk (hoc_of hox)))
  refine wpAny_assignInOrder_more (assign_Name (store_l Y1 (fun s2 Y2 => ?_) hy hk (hoc_of hoy)))
  refine wpAny_assignInOrder_more (assign_Name (store_c Y2 (fun s3 Y3 => ?_) hz hoz hez hk))
  refine wpAny_assignInOrder_more (assign_Name (store_l Y3 (fun s4 Y4 => ?_) hu hk (hoc_of hou)))
  exact wpAny_assignInOrder_none (h _ Y4)

/-- what such a comprehension asks of the value it walks over -/
inductive CompOwn (prog : Program) (w : World) (A : Around) (env : Env) (x : Str) (elt : Expr) (scope : Scope) (cl : List (Str × Addr)) (F : Nat → List Value → List Value → Prop) (Q : Value → Shared → Prop) (xv : Value) (s₁ : Shared) : Prop
  | mk (s₀ : Shared) (g : Heap) (oc : List (Str × Addr)) (m : Str → Option Value) (pre post : Own) (a : Addr) (ys : List Value) (n : Nat) (P : Nat → Value → Prop) (X : St s₀ g env oc m (pre ++ (a, listO ys) :: post) s₁) (hI : IterS prog w A xv s₁ n P []) (hn : n ≤ sizeLine) (h0 : F 0 [] ys)
      (turn : ∀ C i s₂ g' m' zs ys' v fr s₃ E', i < n → (∀ b o, b ≠ a → s₁.heap.get? b = some o → s₃.heap.get? b = some o) → F i zs ys' → P i v → St s₂ g' (cEnv scope cl C env) (cOc scope C) (upd m' x v) ([] ++ (a, listO ys') :: fr) s₃ →
        wpAny (model prog w) A (eval elt (cEnv scope cl C env)) (fun y s₄ => ∃ ys'', F (i + 1) (zs ++ [y]) ys'' ∧ St s₂ g' (cEnv scope cl C env) (cOc scope C) (upd m' x v) ([] ++ (a, listO ys'') :: fr) s₄) E' s₃)
      (done : ∀ D zs ys' s', St s₀ g env oc m (pre ++ (a, listO ys') :: post) s' → s'.heap.PlainList D zs.toArray → F n zs ys' → Q (.ref D) s') : CompOwn prog w A env x elt scope cl F Q xv s₁
/-- a list comprehension without a test that works on one list of one's own -/
theorem comp_own {elt iter : Expr} {scope : Scope} {cl : List (Str × Addr)} {Q : Value → Shared → Prop} (F : Nat → List Value → List Value → Prop)
    (h : wpAny (model prog w) A (eval iter env) (CompOwn prog w A env x elt scope cl F Q) E s)
    (hclos : closureFor scope env = pure cl) (hkind : scope.kind = .function) (hnames : (scope.names.all fun y => y.2 != .local || scope.names.lookup y.1 == some .local) = true)
    (hcells : (scope.names.all fun y => y.2 != .cell || scope.names.lookup y.1 == some .cell) = true)
    (hx : scope.names.lookup x = some .local ∨ (scope.names.lookup x = some .cell ∧ ∀ C, ∃ c, (cOc scope C).lookup x = some c))
    (hs : ∀ x, foldedSetIterable iter env x = pure x) :
    wpAny (model prog w) A (eval (.ListComp elt [⟨.Name x px, iter, [], 0⟩] scope pos) env) Q E s := by
  refine comp_full hclos hkind hnames hcells hx (wpAny_mono h (fun xv s₁ h₁ => ?_) fun _ _ e => e) hs
  obtain ⟨s₀, g, oc, m, pre, post, a, ys, n, P, X, hI, hn, h0, turn, hQ⟩ := h₁
  obtain ⟨o, fp, S, hit, W, hS, hlive, hfr, hfp⟩ := hI.iter
  refine hit _ _ ?_
  let h2 : Heap := s₁.heap.push o
  have hoI : h2.get? s₁.heap.objs.size = some o := Heap.get?_push_size _ hfr
  have k2 : Ext s₁.heap h2 := fun b o e => Heap.get?_push_of_some _ e
  obtain ⟨oa, hoa, pa⟩ := X.mine (a, listO ys) (List.mem_append_right _ (.head _))
  have hne : a ≠ s₁.heap.objs.size := Nat.ne_of_lt (Heap.lt_size hoa)
  have Xo : Ow { s₁ with heap := h2 } (hideAll h2 [s₁.heap.objs.size, a]) ([(a, listO ys)] ++ [(s₁.heap.objs.size, (· = o))]) { s₁ with heap := h2 } := {
    same := ⟨_, _, rfl⟩
    keep := fun b o e => of_hideAll _ e
    mine := fun p hp => by
      rcases List.mem_cons.mp hp with rfl | hp
      · exact ⟨oa, k2 _ _ hoa, pa⟩
      · rw [List.mem_singleton.mp hp]; exact ⟨o, hoI, rfl⟩
    gO := fun p hp => by
      rcases List.mem_cons.mp hp with rfl | hp
      · exact hideAll_none _ (.tail _ (.head _))
      · rw [List.mem_singleton.mp hp]; exact hideAll_none _ (.head _)
    aO := by
      refine List.pairwise_cons.mpr ⟨fun p hp => ?_, List.pairwise_singleton _ _⟩
      rw [List.mem_singleton.mp hp]; exact hne }
  have sub1 : ∀ b o', b ≠ a → s₁.heap.get? b = some o' → (hideAll h2 [s₁.heap.objs.size, a]).get? b = some o' := fun b o' hb e => hideAll_get _ (k2 b o' e) fun hm => by
    rcases List.mem_cons.mp hm with q | q
    · exact Nat.ne_of_lt (Heap.lt_size e) q
    · exact hb (List.mem_singleton.mp q)
  refine ⟨{ s₁ with heap := h2 }, hideAll h2 [s₁.heap.objs.size, a], [(a, listO ys)], s₁.heap.objs.size, (· = o), fp, n, P, S, fun i zs gg own' => ∃ ys', own' = [(a, listO ys')] ∧ F i zs ys', rfl, W, hlive, hn, Xo, hS, ?_, ⟨ys, rfl, h0⟩, ?_, ?_⟩
  · intro b hb hb2
    exact nomatch (hfp b hb hb2).1
  · intro C i g' m' own' zs v D oI s' E' hC hD hi hg hJ hP Y
    obtain ⟨ys', rfl, hF⟩ := hJ
    refine wpAny_tests_nil ?_
    rw [if_pos rfl]
    refine wpAny_mono (turn C i _ g' m' zs ys' v _ s' E' hi (fun b o' hb e => Y.keep b o' (hg b o' (sub1 b o' hb e))) hF hP Y) (fun y s₄ q => ?_) fun _ _ e => e
    obtain ⟨ys'', hF', Z⟩ := q
    exact ⟨g', _, _, Ext.refl _, ⟨ys'', rfl, hF'⟩, Z⟩
  · intro D zs g'' own' s' hD hg hJ Y
    obtain ⟨ys', rfl, hF⟩ := hJ
    obtain ⟨h', tk, e⟩ := Y.same
    obtain ⟨o1, e1, p1⟩ := Y.mine (a, listO ys') (.head _)
    obtain ⟨o2, e2, p2⟩ := Y.mine (D, listO zs) (.tail _ (.head _))
    have Z : St s₀ g env oc m (pre ++ (a, listO ys') :: post) { s₁ with heap := s'.heap, toks := s'.toks } :=
      X.set_own (fun b o' hb e => Y.keep b o' (hg b o' (sub1 b o' hb e))) e1 p1
    have es : ({ s₁ with heap := s'.heap, toks := s'.toks } : Shared) = s' := by rw [e]
    rw [es] at Z
    exact hQ D zs ys' s' Z (plain_of e2 p2) hF
end
/-! part G14 -/
section
variable {prog : Program} {w : World} {A : Around} {E : Value → Shared → Prop} {s₀ s : Shared} {g : Heap} {env : Env} {oc : List (Str × Addr)} {m : Str → Option Value} {own pre post : Own}
/-- a cell, after one object of one's own has changed -/
theorem St.cap_own {h' : Heap} {a c : Addr} {P : Obj → Prop} {n : Str} {v : Value} (X : St s₀ g env oc m (pre ++ (a, P) :: post) s) (hv : m n = some v) (e : oc.lookup n = some c) (e' : env.cells.lookup n = some c)
    (hk : ∀ b o, b ≠ a → s.heap.get? b = some o → h'.get? b = some o) : Cap h' env.cells n v := by
  obtain ⟨o, a1, b1⟩ := hv ▸ X.cell n c e
  have hne : c ≠ a := fun q => (X.gO (a, P) (List.mem_append_right _ (.head _))).2.2 n c e q.symm
  exact ⟨c, e', o, hk c o hne a1, b1⟩
theorem drop_getD {l : List Int} {i : Nat} (h : i < l.length) : l.drop i = l.getD i 0 :: l.drop (i + 1) := by
  rw [List.drop_eq_getElem_cons h, List.getD, List.getElem?_eq_getElem h]; rfl
theorem IntsAre.pop {vs : List Value} {ns : List Int} {n : Int} (h : IntsAre vs (ns ++ [n])) : ∃ us t, vs = us ++ [.int n t] ∧ IntsAre us ns := by
  induction ns generalizing vs with
  | nil =>
    cases h with
    | cons _ t h' => cases h'; exact ⟨[], t, rfl, .nil⟩
  | cons a r ih =>
    cases h with
    | cons _ t h' =>
      obtain ⟨us, u, e, i⟩ := ih h'
      subst e
      exact ⟨_, u, rfl, .cons _ t i⟩
end

inductive NeedJ (nd sy ab : Addr) (D : List Int) (i : Nat) (gi : Heap) (m' : Str → Option Value) (own' : Own) : Prop
  | mk (ns : List Int) (vn : List Value) (h0 : own' = [(nd, listO vn)]) (h1 : IntsAre vn ns) (h2 : needAt D i = some ns) (h3 : m' "needs" = some (.ref nd)) (h4 : m' "symbols" = some (.ref sy)) (h5 : m' "above" = some (.ref ab)) : NeedJ nd sy ab D i gi m' own'
set_option maxHeartbeats 4000000 in
theorem law_C {prog : Program} {w : World} {A : Around} {s₀ s : Shared} {g : Heap} {L : Addr} {m : Str → Option Value} {sy ab : Addr} {vs va : List Value} {D up : List Int} {x : Int} {Q : Value → Shared → Prop} {d : Nat}
    (B : Base w g) (R : Room A (d + 3)) (X : St s₀ g (fEnv w fnLaw L) (fEnv w fnLaw L).cells m [] s)
    (e1 : m "symbols" = some (.ref sy)) (e2 : m "above" = some (.ref ab)) (hs : g.IsList sy vs.toArray) (is : IntsAre vs D) (ha : g.IsList ab va.toArray) (ia : IntsAre va up) (lD : D.length = 7) (lu : up.length = 7)
    (hx : needAt D 7 = some [x]) (hres : lkT (leastT (belowOf up) D 7) 127 = some (x, 1))
    (h : ∀ s' g' m', Ext g g' → St s₀ g' (fEnv w fnLaw L) (fEnv w fnLaw L).cells m' [] s' → Q (.bool true) s') :
    wpAny (model prog w) A (execs (bdLaw.1.drop 8) (fEnv w fnLaw L)) (fun f s' => Q (match f with | .ret v => v | _ => .none) s') (fun _ _ => False) s := by
  dsimp only [bdLaw, List.drop]
  have hvl : vs.length = 7 := is.length.trans lD
  walk_at "st"
  walk_at "st"
  refine list_disp ?_
  (repeat (walk_at "st"))
  refine ⟨Nat.zero_le _, fun nd s₁ k₁ hnd hpd => ?_⟩
  have X1 := X.push_list hnd k₁ hpd
  (first | (refine' put_l ?xz40 ?kz40 ?_ ?hlz40 ?hkz40 ?hocz40; (case xz40 => assumption); (case hlz40 => rfl); (case hocz40 => rfl); (case hkz40 => rfl); (case kz40 => walk_at "kp")) | (refine' put_c ?xz40 ?kz40 ?_ ?hlz40 ?hkz40 ?hocz40 ?hez40; (case xz40 => assumption); (case hlz40 => rfl); (case hocz40 => rfl); (case hez40 => rfl); (case hkz40 => rfl); (case kz40 => walk_at "kp")))
  intro s₂ X2
  try dsimp only
  walk_at "st"
  (refine for_mk ?_ ?hkz41 ?hsz41 ?hEz41; (case hkz41 => rfl); (case hsz41 => intro _; rfl); (case hEz41 => exact PassesOwn.never))
  have B2 := B.keeps X2.keep
  (repeat (walk_at "st"))
  refine range1 fun r3 s₃ k₃ hr3 => ?_
  have X3 := X2.keeps k₃
  refine ⟨_, _, _, _, [(nd, listO [])], [], _, _, _, NeedJ nd sy ab D, X3,
    iterS_r0 (n := 7) R.hh hr3 rfl (by decide), by simp, by (exact .inl ⟨rfl, hoc_of rfl⟩), ⟨[], [], rfl, .nil, rfl, by walk_at "mv", by walk_at "mv", by walk_at "mv"⟩, ?_, ?_⟩
  · intro i gi m' own' v I oI s₄ hi hgi hJ hP X4
    obtain ⟨ns, vn, rfl, hvn, hat, f1, f2, f3⟩ := hJ
    obtain ⟨ti, rfl⟩ := hP
    have k04 : Ext g s₄.heap := hgi.trans X4.keep
    have B4 := B.keeps k04
    obtain ⟨ns0, n', ea, eb, ec⟩ := need_at hx hi
    obtain rfl : ns = ns0 := by rw [ea] at hat; exact (Option.some.inj hat).symm
    have hnl := needAt_len i ea
    obtain ⟨ts, es⟩ := IntsAre.get' is (get_lk (d := 0) (Nat.lt_of_le_of_lt (Nat.sub_le 6 i) (lD.symm ▸ (by decide)) : 6 - i < D.length))
    refine hideQ fun Q1 hQ1 => ?_
    walk_at "st"
    walk_at "st"
    (repeat (walk_at "st"))
    rw [show (6 : Int) - (i : Int) = ((6 - i : Nat) : Int) by omega]
    refine item_n (isList_keeps hs k04) (Nat.lt_of_le_of_lt (Nat.sub_le 6 i) (by decide)) es ?_ rfl
    (first | (refine' put_l ?xz42 ?kz42 ?_ ?hlz42 ?hkz42 ?hocz42; (case xz42 => assumption); (case hlz42 => rfl); (case hocz42 => rfl); (case hkz42 => rfl); (case kz42 => walk_at "kp")) | (refine' put_c ?xz42 ?kz42 ?_ ?hlz42 ?hkz42 ?hocz42 ?hez42; (case xz42 => assumption); (case hlz42 => rfl); (case hocz42 => rfl); (case hez42 => rfl); (case hkz42 => rfl); (case kz42 => walk_at "kp")))
    intro s₅ X5
    try dsimp only
    generalize hsym : D.getD (6 - i) 0 = sym at *
    have B5 := B.keeps (hgi.trans X5.keep)
    walk_at "st"
    walk_at "st"
    (repeat (walk_at "st"))
    refine call_own fnIsn B5 ?_ rfl
    (repeat (walk_at "st"))
    refine ⟨B5, ?_⟩
    refine isn_spec B5 R fun s₆ k₆ => ?_
    (repeat (walk_at "st"))
    have X6 := X5.keeps k₆
    have B6 := B.keeps (hgi.trans X6.keep)
    by_cases h256 : 256 ≤ sym
    · rw [show decide (sym ≥ 256) = true by simpa using h256, if_pos rfl]
      walk_at "st"
      walk_at "st"
      walk_at "st"
      walk_at "st"
      (repeat (walk_at "st"))
      have hstep := eb
      unfold needStep at hstep
      rw [if_pos h256] at hstep
      have hpk : popN sym ≤ ns.length := by
        rcases Nat.lt_or_ge ns.length (popN sym) with q | q
        · rw [if_neg (by omega)] at hstep; cases hstep
        · exact q
      rw [if_pos hpk] at hstep
      have en' := (Option.some.inj hstep).symm
      have hk0 : (popN sym : Int) = sym - 255 := by unfold popN; omega
      have hkpos : 0 < popN sym := by omega
      generalize hK : popN sym = K at *
      have hvl6 := hvn.length
      refine' comp_own (F := fun j zs ys => j ≤ K ∧ IntsAre zs ((ns.drop (ns.length - j)).reverse) ∧ IntsAre ys (ns.take (ns.length - j))) ?_ ?hclos ?hkind ?hnames ?hcells ?hx ?hs
      ((case hclos => with_unfolding_all rfl); (case hkind => rfl); (case hnames => rfl); (case hcells => rfl); (case hs => intro _; rfl))
      (case hx => exact .inl rfl)
      (repeat (walk_at "st"))
      refine range1 fun r7 s₇ k₇ hr7 => ?_
      have X7 := X6.keeps (Keeps.trans (keeps_tok _ _) k₇)
      refine ⟨_, _, _, _, [], _, nd, vn, _, _, X7, iterS_r0 (n := K) R.hh hr7 (by omega) (by omega), sz_of (by omega), ⟨by omega, ?_, ?_⟩, ?_, ?_⟩
      · rw [Nat.sub_zero, List.drop_of_length_le (Nat.le_refl _)]; exact .nil
      · rw [Nat.sub_zero, List.take_of_length_le (Nat.le_refl _)]; exact hvn
      · intro C j s₂' g' m'' zs ys' v fr s₈ E' hj hk8 hF hP Y
        obtain ⟨hjK, hz, hy⟩ := hF
        have cN : Cap s₈.heap (fEnv w fnLaw L).cells "needs" (.ref nd) := X7.cap_own (pre := []) (n := "needs") (by walk_at "mv") rfl rfl hk8
        refine hideQ fun Q2 hQ2 => ?_
        refine MethodCall_ ?_
        walk_at "st"
        have hj1 : ns.length - j = ns.length - (j + 1) + 1 := (Nat.sub_add_cancel (Nat.sub_pos_of_lt (Nat.lt_of_lt_of_le hj hpk))).symm
        have hj2 : ns.length - (j + 1) < ns.length := Nat.sub_lt (Nat.lt_of_lt_of_le (Nat.lt_of_le_of_lt (Nat.zero_le j) hj) hpk) (Nat.succ_pos j)
        have et : ns.take (ns.length - j) = ns.take (ns.length - (j + 1)) ++ [ns.getD (ns.length - (j + 1)) 0] := by
          rw [hj1]; exact take_snoc (get_lk hj2)
        have ed : ns.drop (ns.length - (j + 1)) = ns.getD (ns.length - (j + 1)) 0 :: ns.drop (ns.length - j) := by
          rw [hj1]; exact drop_getD hj2
        rw [et] at hy
        obtain ⟨us, tu, rfl, hus⟩ := IntsAre.pop hy
        refine getm_pop (Y.own_list (Keeps.refl _) (.head _)) ?_
        try dsimp only
        refine callWith_method0 ?_
        have hul := hus.length
        rw [List.length_take] at hul
        refine pop_own (pre := []) Y (Keeps.refl _) (fun s₉ Y9 => ?_) (sz_of (by omega))
        refine hQ2 _ _ ?_
        refine ⟨us, ⟨hj, ?_, hus⟩, Y9⟩
        rw [ed, List.reverse_cons]
        exact IntsAre.snoc hz _ _
      · intro Dz zs ys' s₈ X8 hDz hF
        obtain ⟨_, hz, hy⟩ := hF
        have hzl := hz.length
        rw [List.length_reverse, List.length_drop] at hzl
        (repeat (walk_at "st"))
        refine sorted_k hDz.isList hz (by omega) fun Dp vp s₉ k₉ hDp hpp hvp => ?_
        obtain ⟨g9, hg9, hin9, X9⟩ := X8.grow k₉
        (first | (refine' put_l ?xz43 ?kz43 ?_ ?hlz43 ?hkz43 ?hocz43; (case xz43 => assumption); (case hlz43 => rfl); (case hocz43 => rfl); (case hkz43 => rfl); (case kz43 => walk_at "kp")) | (refine' put_c ?xz43 ?kz43 ?_ ?hlz43 ?hkz43 ?hocz43 ?hez43; (case xz43 => assumption); (case hlz43 => rfl); (case hocz43 => rfl); (case hez43 => rfl); (case hkz43 => rfl); (case kz43 => walk_at "kp")))
        intro s₁₀ X10
        try dsimp only
        have hvpl := hvp.length
        rw [(sortI_perm _).length_eq, List.length_reverse, List.length_drop] at hvpl
        have esl : (sortI (ns.drop (ns.length - K)).reverse).length = K := by rw [(sortI_perm _).length_eq, List.length_reverse, List.length_drop]; exact Nat.sub_sub_self hpk
        have evpK : vp.length = K := hvpl.trans (Nat.sub_sub_self hpk)
        have v1000 : vp.length ≤ 1000 := Nat.le_trans (Nat.le_of_eq evpK) (Nat.le_trans hpk (Nat.le_trans hnl (Nat.le_trans (Nat.le_of_lt hi) (by decide))))
        have hvpos : 0 < vp.length := evpK ▸ hkpos
        have evp0 : vp.length = (sortI (ns.drop (ns.length - K)).reverse).length := evpK.trans esl.symm
        generalize hps : sortI (ns.drop (ns.length - K)).reverse = ps at *
        have evp : vp.length = ps.length := evp0
        have hpp9 : g9.PlainList Dp vp.toArray := by obtain ⟨n, e⟩ := hpp; exact ⟨n, hin9 _ _ e hDp⟩
        have k010 : Ext g s₁₀.heap := hgi.trans (hg9.trans X10.keep)
        have B10 := B.keeps k010
        have cP := X10.cap (n := "parts") (by walk_at "mv") rfl rfl
        walk_at "st"
        walk_at "st"
        refine MethodCall_ ?_
        walk_at "st"
        refine getm_append (X10.own_list (Keeps.refl _) (.head _)) ?_
        try dsimp only
        refine callWith_method1 ?_
        (repeat (walk_at "st"))
        refine' comp_mk (F := fun j ys _ => IntsAre ys ((List.range j).map fun k : Nat => ps.getD k 0 + ps.length - 1 - (k : Int))) ?_ ?hmono ?hclos ?hkind ?hnames ?hcells ?hx ?hs
        ((case hclos => with_unfolding_all rfl); (case hkind => rfl); (case hnames => rfl); (case hcells => rfl); (case hs => intro _; rfl))
        (case hx => exact .inl rfl)
        case hmono => exact fun _ _ _ _ _ h => h
        (repeat (walk_at "st"))
        refine len_k (isList_keeps hpp9.isList X10.keep) (sz_of v1000) fun t11 s₁₁ k₁₁ e₁₁ => ?_
        have X11 := X10.keeps k₁₁
        (repeat (walk_at "st"))
        refine range1 fun r12 s₁₂ k₁₂ hr12 => ?_
        have X12 := X11.keeps k₁₂
        refine ⟨_, _, _, _, _, _, _, X12, iterAt_r0 (n := vp.length) R.hh hr12 rfl (Nat.lt_of_le_of_lt v1000 (by decide)), sz_of v1000, .nil, ?_, ?_⟩
        · intro C j s₃' g' gF m'' own' zs2 v s₁₃ E' hj hgF hgs hx3 hC hF2 hP Y
          obtain ⟨tj, rfl⟩ := hP
          have cP3 := cP.keeps ((Keeps.ext k₁₁).trans ((Keeps.ext k₁₂).trans hx3))
          have k013 : Ext s₁₀.heap s₁₃.heap := (Keeps.ext k₁₁).trans ((Keeps.ext k₁₂).trans hx3)
          have B13 := B10.keeps k013
          obtain ⟨tp, ep⟩ := IntsAre.get' hvp (get_lk (d := 0) (evp ▸ hj : j < ps.length))
          have hl13 := isList_keeps hpp9.isList (X10.keep.trans k013)
          refine wpAny_tests_nil ⟨Keeps.refl _, ?_⟩
          rw [if_pos rfl]
          refine hideQ fun Q3 hQ3 => ?_
          (repeat (walk_at "st"))
          refine item_n hl13 (Nat.lt_of_lt_of_le hj v1000) ep ?_ rfl
          (repeat (walk_at "st"))
          refine len_k hl13 (sz_of v1000) fun t14 s₁₄ k₁₄ e₁₄ => ?_
          have Y14 := Y.keeps k₁₄
          (repeat (walk_at "st"))
          refine hQ3 _ _ ?_
          refine ⟨by walk_at "kp", fun g'' _ _ => ?_⟩
          show IntsAre _ ((List.range (j + 1)).map fun k : Nat => ps.getD k 0 + ps.length - 1 - (k : Int))
          rw [List.range_succ, List.map_append]
          have := IntsAre.snoc hF2 (ps.getD j 0 + ps.length - 1 - (j : Int))
          rw [evp]
          exact this _
        · intro Dm ym g15 s₁₅ hg15 X15 k15 hDm hpm hFm
          (repeat (walk_at "st"))
          have hml := hFm.length
          rw [List.length_map, List.length_range] at hml
          refine max_k R.hh (isList_keeps hpm.isList X15.keep) hFm (by rw [List.length_map, List.length_range]; exact hvpos) fun t16 s₁₆ k₁₆ => ?_
          (repeat (walk_at "st"))
          refine append_own (pre := []) (post := [(I, (· = oI))]) X15 k₁₆ (fun s₁₇ X17 => ?_) (by have := hy.length; rw [List.length_take] at this; rw [sizeLine_eq]; omega)
          try dsimp only
          (repeat (walk_at "st"))
          refine hQ1 _ _ ?_
          refine ⟨_, _, _, hg9.trans hg15, ⟨_, _, rfl, ?_, ec, by walk_at "mv", by walk_at "mv", by walk_at "mv"⟩, X17⟩
          rw [en', show ershov ps = maxL ((List.range vp.length).map fun k : Nat => ps.getD k 0 + ps.length - 1 - (k : Int)) by unfold ershov; rw [evp]]
          exact IntsAre.snoc hy _ _
    · rw [show decide (sym ≥ 256) = false by simpa using h256, if_neg Bool.false_ne_true]
      have hstep := eb
      unfold needStep at hstep
      rw [if_neg h256] at hstep
      have en' := (Option.some.inj hstep).symm
      walk_at "st"
      walk_at "st"
      refine MethodCall_ ?_
      walk_at "st"
      refine getm_append (X6.own_list (keeps_tok _ _) (.head _)) ?_
      try dsimp only
      refine callWith_method1 ?_
      (repeat (walk_at "st"))
      refine append_own (pre := []) (post := [(I, (· = oI))]) X6 (by walk_at "kp") (fun s₇ X7 => ?_) (by have := hvn.length; rw [sizeLine_eq]; omega)
      try dsimp only
      (repeat (walk_at "st"))
      refine hQ1 _ _ ?_
      refine ⟨_, _, _, Ext.refl _, ⟨_, _, rfl, ?_, ec, by walk_at "mv", by walk_at "mv", by walk_at "mv"⟩, X7⟩
      rw [en']
      exact IntsAre.snoc hvn _ _
  · intro g4 m' own' s₄ hg4 hJ X4
    obtain ⟨ns, vn, rfl, hvn, hat, f1, f2, f3⟩ := hJ
    obtain rfl : [x] = ns := by rw [hx] at hat; exact Option.some.inj hat
    try dsimp only
    have k04 : Ext g s₄.heap := hg4.trans X4.keep
    have B4 := B.keeps k04
    have hal : va.length = 7 := ia.length.trans lu
    have cA := X4.cap (n := "above") (by walk_at "mv") rfl rfl
    walk_at "st"
    refine' comp_mk_assign (F := fun i ys _ => IntsAre ys ((List.range i).map (belowAt up))) ?_ ?hmono ?hsw ?hclos ?hkind ?hnames ?hcells ?hx ?hke ?hy ?hs
    ((case hclos => with_unfolding_all rfl); (case hkind => rfl); (case hnames => rfl); (case hcells => rfl); (case hs => intro _; rfl))
    (case hx => exact .inr ⟨rfl, fun _ => ⟨_, rfl⟩⟩)
    case hmono => exact fun _ _ _ _ _ h => h
    case hke => rfl
    case hy => rfl
    case hsw => with_unfolding_all rfl
    (repeat (walk_at "st"))
    refine range1 fun r5 s₅ k₅ hr5 => ?_
    have X5 := X4.keeps (Keeps.trans (keeps_tok _ _) k₅)
    refine ⟨_, _, _, _, _, _, _, X5, iterAt_r0 (n := 7) R.hh hr5 rfl (by decide), by rw [sizeLine_eq]; decide, .nil, ?_, ?_, ?_⟩
    · intro C i s₃' g' gF m'' own' zs v s₆ E' hi hgF hgs hx6 hC hF hP Y
      obtain ⟨ti, rfl⟩ := hP
      have k46 : Ext s₄.heap s₆.heap := (Keeps.ext k₅).trans hx6
      have cA6 := cA.keeps k46
      have cr6 := Y.cap (n := "r") (by walk_at "mv") rfl rfl
      have B6 := B4.keeps k46
      refine wpAny_tests_nil ⟨Keeps.refl _, ?_⟩
      rw [if_pos rfl]
      refine hideQ fun Q4 hQ4 => ?_
      (repeat (walk_at "st"))
      refine' comp_mk (F := fun j ys _ => IntsAre ys (((List.range j).filter fun q => decide (up.getD q 0 = (i : Int))).map fun q => (2 : Int) ^ q)) ?_ ?hmono2 ?hclos ?hkind ?hnames ?hcells ?hx ?hs
      ((case hclos => with_unfolding_all rfl); (case hkind => rfl); (case hnames => rfl); (case hcells => rfl); (case hs => intro _; rfl))
      (case hx => exact .inl rfl)
      case hmono2 => exact fun _ _ _ _ _ h => h
      (repeat (walk_at "st"))
      refine range1 fun r7 s₇ k₇ hr7 => ?_
      have Y7 := Y.keeps (Keeps.trans (keeps_tok _ _) k₇)
      refine ⟨_, _, _, _, _, _, _, Y7, iterAt_r0 (n := 7) R.hh hr7 rfl (by decide), by rw [sizeLine_eq]; decide, .nil, ?_, ?_⟩
      · intro C2 j s₄' g2' gF2 m2 own2 zs2 v2 s₈ E2 hj hgF2 hgs2 hx8 hC2 hF2 hP2 Z
        obtain ⟨tj, rfl⟩ := hP2
        have k68 : Ext s₆.heap s₈.heap := (Keeps.ext k₇).trans hx8
        have cA8 := cA6.keeps k68
        have cr8 := cr6.keeps k68
        obtain ⟨ta, ea⟩ := IntsAre.get' ia (get_lk (d := 0) (lu.symm ▸ hj : j < up.length))
        refine hideQ fun Q5 hQ5 => ?_
        refine wpAny_tests_one ?_
        (repeat (walk_at "st"))
        refine item_n (isList_keeps ha (k04.trans (k46.trans k68))) (Nat.lt_trans hj (by decide)) ea ?_ rfl
        (repeat (walk_at "st"))
        refine hQ5 _ _ ?_
        refine ⟨by walk_at "kp", ?_⟩
        have esucc : (List.range (j + 1)).filter (fun q => decide (up.getD q 0 = (i : Int))) = (List.range j).filter (fun q => decide (up.getD q 0 = (i : Int))) ++ (if decide (up.getD j 0 = (i : Int)) = true then [j] else []) := by
          rw [List.range_succ, List.filter_append]
          congr 1
          by_cases hh : decide (up.getD j 0 = (i : Int)) = true
          · rw [if_pos hh]; rw [List.filter_cons, if_pos hh]; rfl
          · rw [if_neg hh]; rw [List.filter_cons, if_neg hh]; rfl
        by_cases hh : up.getD j 0 = (i : Int)
        · rw [if_pos (by simpa using hh)]
          (repeat (walk_at "st"))
          refine pow_int_small (Int.natCast_nonneg j) (by omega) (by decide) ?_
          refine ⟨by walk_at "kp", fun g'' _ _ => ?_⟩
          show IntsAre _ (((List.range (j + 1)).filter fun q => decide (up.getD q 0 = (i : Int))).map fun q => (2 : Int) ^ q)
          rw [esucc, if_pos (by simpa using hh), List.map_append, Int.toNat_natCast]
          exact IntsAre.snoc hF2 _ _
        · rw [if_neg (by simpa using hh)]
          show IntsAre _ (((List.range (j + 1)).filter fun q => decide (up.getD q 0 = (i : Int))).map fun q => (2 : Int) ^ q)
          rw [esucc, if_neg (by simpa using hh), List.append_nil]
          exact hF2
      · intro D8 v8 g8 s₈ hg8 X8 k8 hD8 hp8 hF8
        (repeat (walk_at "st"))
        have eb : (((List.range 7).filter fun q => decide (up.getD q 0 = (i : Int))).map fun q => (2 : Int) ^ q).sum = belowAt up i := by unfold belowAt; exact Eq.refl _
        generalize ((List.range 7).filter fun q => decide (up.getD q 0 = (i : Int))).map (fun q => (2 : Int) ^ q) = bl at *
        refine sum_k R.hh (isList_keeps hp8.isList X8.keep) (ns := bl) hF8 fun t9 s₉ k₉ => ?_
        rw [eb]
        refine hQ4 _ _ ?_
        refine ⟨Keeps.trans (Keeps.trans (keeps_tok _ _) k₇) (Keeps.trans k8 k₉), fun g'' _ _ => ?_⟩
        show IntsAre _ ((List.range (i + 1)).map (belowAt up))
        rw [List.range_succ, List.map_append]
        exact IntsAre.snoc hF (belowAt up i) t9
    · exact hoc_of rfl
    · intro Db vb g5 s₆ hg5 hDb X6 hpb hFb
      try dsimp only
      have B6 := B.keeps (hg4.trans (hg5.trans X6.keep))
      walk_at "st"
      refine Assign_Tuple ?_
      (repeat (walk_at "st"))
      refine call_own fnLeast B6 ?_ rfl
      (repeat (walk_at "st"))
      refine ⟨B6, ?_⟩
      have hFb' : IntsAre vb (belowOf up) := hFb
      refine least_spec (below := belowOf up) (syms := D) B6 R (isList_keeps hpb.isList X6.keep) (isList_keeps hs (hg4.trans (hg5.trans X6.keep))) hFb' is (by unfold belowOf; rw [List.length_map, List.length_range]) lD hres fun p t u s₇ k₇ hp7 => ?_
      refine pair_st R.hh X6 k₇ hp7 (fun s₈ X8 => ?_) rfl rfl rfl rfl rfl
      try dsimp only
      walk_at "st"
      walk_at "st"
      walk_at "st"
      refine tuple_disp ?_
      (repeat (walk_at "st"))
      refine ⟨sz_of (show 2 ≤ 1000 by decide), fun p9 s₉ k₉ hn9 ht9 => ?_⟩
      have X9 := X8.keeps k₉
      refine tuple_disp ?_
      (repeat (walk_at "st"))
      refine list_disp ?_
      (repeat (walk_at "st"))
      refine ⟨sz_of (show 1 ≤ 1000 by decide), fun l10 s₁₀ k₁₀ hn10 hp10 => ?_⟩
      have X10 := X9.keeps k₁₀
      (repeat (walk_at "st"))
      refine ⟨sz_of (show 2 ≤ 1000 by decide), fun p11 s₁₁ k₁₁ hn11 ht11 => ?_⟩
      have X11 := X10.keeps (Keeps.trans (keeps_tok _ _) k₁₁)
      have k911 : Ext s₉.heap s₁₁.heap := (Keeps.ext k₁₀).trans (Keeps.ext k₁₁)
      have ra : Rd s₁₁.heap (.ref p9) (.tuple [.list (intsD [x]), .int 1]) :=
        Rd.tuple (isTuple_keeps ht9 k911) (RdAll.cons (Rd.list (X11.own_list (Keeps.refl _) (.head _)).isList (RdAll.ofInts hvn)) (RdAll.cons (Rd.int _ _) RdAll.nil))
      have rb : Rd s₁₁.heap (.ref p11) (.tuple [.list (intsD [x]), .int 1]) :=
        Rd.tuple ht11 (RdAll.cons (Rd.list (isList_keeps hp10.isList (Keeps.ext k₁₁)) (RdAll.cons (Rd.int _ _) RdAll.nil)) (RdAll.cons (Rd.int _ _) RdAll.nil))
      have hlay : (PyData.tuple [.list (intsD [x]), .int 1]).canLay0 = true := rfl
      refine eq_rd ra rb hlay hlay (Nat.le_of_ble_eq_true rfl) R.unit64 ?_
      have hq : PyData.eqv (.tuple [.list (intsD [x]), .int 1]) (.tuple [.list (intsD [x]), .int 1]) = true := PySem.SeqAt.eqv_refl _ hlay
      rw [hq]
      exact h s₁₁ g5 _ (hg4.trans hg5) (X11.drop_own (List.nil_sublist _))
/-! part G15 -/
theorem isTuple_new {h h' gn : Heap} {t : Addr} {xs : Array Value} (k : NewIn h h' gn) (hn : h.get? t = none) (x : h'.IsTuple t xs) : gn.IsTuple t xs := let ⟨o, a, b⟩ := x; ⟨o, k _ _ a hn, b⟩
theorem isList_new {h h' gn : Heap} {t : Addr} {xs : Array Value} (k : NewIn h h' gn) (hn : h.get? t = none) (x : h'.IsList t xs) : gn.IsList t xs := let ⟨o, a, b⟩ := x; ⟨o, k _ _ a hn, b⟩
/-- the pile: pairs of a Whitespace and a row -/
inductive PileAt (h : Heap) (ls : List (List Nat)) : List Value → List Nat → Prop
  | nil : PileAt h ls [] []
  | snoc {pv : List Value} {qs : List Nat} {p x : Addr} {q : Nat} {t : Tok} : PileAt h ls pv qs → h.IsTuple p [.ref x, .int q t].toArray → WsAt h x (wsOf (ls.getD q [])) → PileAt h ls (pv ++ [.ref p]) (qs ++ [q])
theorem PileAt.keeps {h h' : Heap} {ls : List (List Nat)} {pv : List Value} {qs : List Nat} (x : PileAt h ls pv qs) (k : Ext h h') : PileAt h' ls pv qs := by
  induction x with
  | nil => exact .nil
  | snoc _ a b ih => exact .snoc ih (isTuple_keeps a k) (b.keeps k)
theorem PileAt.len {h : Heap} {ls : List (List Nat)} {pv : List Value} {qs : List Nat} (x : PileAt h ls pv qs) : pv.length = qs.length := by
  induction x with
  | nil => rfl
  | snoc _ a b ih => simp [ih]
theorem PileAt.last {h : Heap} {ls : List (List Nat)} {pv : List Value} {ks qs : List Nat} {q : Nat} (x : PileAt h ls pv ks) (e : ks = qs ++ [q]) :
    ∃ pv' p y t, pv = pv' ++ [.ref p] ∧ PileAt h ls pv' qs ∧ h.IsTuple p [.ref y, .int q t].toArray ∧ WsAt h y (wsOf (ls.getD q [])) := by
  cases x with
  | nil => simp at e
  | snoc a b c =>
    obtain ⟨rfl, e2⟩ := List.append_inj' e rfl
    cases e2
    exact ⟨_, _, _, _, rfl, a, b, c⟩
theorem ws_ok {l : List Nat} (h : l.length ≤ 5) : (wsOf l).Ok := by
  obtain ⟨a, b, _, c⟩ := ws_small l
  exact ⟨by omega, by omega, fun z hz => ⟨(c z hz).1, by have := (c z hz).2; omega⟩⟩

theorem snoc_of {α : Type} : ∀ l : List α, l ≠ [] → ∃ qs q, l = qs ++ [q]
  | [], h => absurd rfl h
  | [a], _ => ⟨[], a, rfl⟩
  | a :: b :: l, _ => by
    obtain ⟨qs, q, e⟩ := snoc_of (b :: l) (by simp)
    exact ⟨a :: qs, q, by rw [e]; rfl⟩
/-- the names that stand through the rows -/
structure LawM (m : Str → Option Value) (la da du uo of pl sy ab go : Addr) : Prop where
  leads : m "leads" = some (.ref la)
  draws : m "draws" = some (.ref da)
  due : m "due" = some (.ref du)
  upon : m "upon" = some (.ref uo)
  off : m "off" = some (.ref of)
  pile : m "pile" = some (.ref pl)
  symbols : m "symbols" = some (.ref sy)
  above : m "above" = some (.ref ab)
  gone : m "gone" = some (.ref go)
noncomputable def rowBody : List Stmt := match bdLaw.1.drop 6 with | .For _ _ b _ _ :: _ => b | _ => []

/-- what is asked of the seven leads -/
structure Leads (ls : List (List Nat)) : Prop where
  len : ls.length = 7
  all : ∀ l ∈ ls, l ∈ allLeads
  first : ∀ q, 0 < q → q < 7 → lessAt (ls.map columnsOf) 0 q = true
theorem Leads.at {ls : List (List Nat)} (H : Leads ls) {q : Nat} (h : q < 7) : ls.getD q [] ∈ allLeads := H.all _ (by rw [List.getD, List.getElem?_eq_getElem (by rw [H.len]; exact h)]; exact List.getElem_mem _)
theorem Leads.col {ls : List (List Nat)} (H : Leads ls) {q : Nat} (h : q < 7) : colOf (ls.map columnsOf) q = columnsOf (ls.getD q []) := by
  unfold colOf
  simp [List.getD, List.getElem?_eq_getElem (show q < ls.length by rw [H.len]; exact h)]
theorem Leads.less {ls : List (List Nat)} (H : Leads ls) {p q : Nat} (hp : p < 7) (hq : q < 7) : lessW (wsOf (ls.getD p [])) (wsOf (ls.getD q [])) = lessAt (ls.map columnsOf) p q := by
  unfold lessAt; rw [H.col hp, H.col hq]; exact (pair_ok (H.at hp) (H.at hq)).1
theorem Leads.eq {ls : List (List Nat)} (H : Leads ls) {p q : Nat} (hp : p < 7) (hq : q < 7) : eqW (wsOf (ls.getD p [])) (wsOf (ls.getD q [])) = decide (colOf (ls.map columnsOf) p = colOf (ls.map columnsOf) q) := by
  rw [H.col hp, H.col hq]; exact (pair_ok (H.at hp) (H.at hq)).2
theorem Leads.ok {ls : List (List Nat)} (H : Leads ls) {p : Nat} (hp : p < 7) : (wsOf (ls.getD p [])).Ok := ws_ok (lead_ok (H.at hp)).1

inductive PileJ (s₀ : Shared) (g : Heap) (env : Env) (oc : List (Str × Addr)) (la da du uo of pl sy ab go lx : Addr) (ls : List (List Nat)) (cs : List (List Int)) (sv av gv : List Value) (fr : Own) (r : Nat) (pt : Int) (tr tp : Tok) (k : Nat) (s' : Shared) : Prop
  | mk (gk : Heap) (m' : Str → Option Value) (vt : List Value) (tk : Addr) (pv' : List Value) (h1 : Ext g gk) (h2 : St s₀ gk env oc m' ([(pl, listO pv'), (sy, listO sv), (ab, listO av), (go, listO gv)] ++ fr) s') (h3 : k ≤ (heldL cs r).length)
      (h4 : PileAt gk ls pv' ((heldL cs r).take k)) (h5 : ∀ p ∈ (heldL cs r).drop k, lessAt cs p r = false) (h6 : gk.IsList tk vt.toArray) (h7 : RdAll gk vt (((heldL cs r).drop k).map fun p => pairD (p, decide (colOf cs p = colOf cs r))))
      (h8 : LawM m' la da du uo of pl sy ab go) (h9 : m' "lead" = some (.ref lx)) (h10 : m' "r" = some (.int r tr)) (h11 : m' "port" = some (.int pt tp)) (h12 : m' "taken" = some (.ref tk)) :
      PileJ s₀ g env oc la da du uo of pl sy ab go lx ls cs sv av gv fr r pt tr tp k s'
set_option maxHeartbeats 4000000 in
theorem law_R1 {prog : Program} {w : World} {A : Around} {s₀ s : Shared} {g : Heap} {L : Addr} {m : Str → Option Value} {la da du uo of pl sy ab go lx : Addr} {ls : List (List Nat)} {pv sv av gv : List Value} {fr : Own} {r : Nat} {pt : Int} {tr tp : Tok} {Q : Flow → Shared → Prop} {d : Nat}
    (B : Base w g) (R : Room A (d + 3)) (H : Leads ls) (hr : r < 7) (X : St s₀ g (fEnv w fnLaw L) (fEnv w fnLaw L).cells m ([(pl, listO pv), (sy, listO sv), (ab, listO av), (go, listO gv)] ++ fr) s)
    (M : LawM m la da du uo of pl sy ab go) (m1 : m "lead" = some (.ref lx)) (m2 : m "r" = some (.int r tr)) (m3 : m "port" = some (.int pt tp))
    (hlx : WsAt g lx (wsOf (ls.getD r []))) (hp : PileAt g ls pv (heldL (ls.map columnsOf) r)) (hsv : sv.length ≤ 7) (hav : av.length ≤ 7) (hgv : gv.length ≤ 7)
    (h : ∀ g' m' pv' tk vt tp' ta s', Ext g g' → LawM m' la da du uo of pl sy ab go → PileAt g' ls pv' (heldL (ls.map columnsOf) (r + 1)) → g'.IsList tk vt.toArray → RdAll g' vt ((offRow (ls.map columnsOf) r).map pairD) →
      St s₀ g' (fEnv w fnLaw L) (fEnv w fnLaw L).cells m' ([(pl, listO pv'), (sy, listO (sv ++ [.int pt tp'])), (ab, listO (av ++ [.int (if r = 0 then -1 else ((stayL (ls.map columnsOf) r).getLastD 0 : Nat)) ta])), (go, listO (gv ++ [.ref tk]))] ++ fr) s' → Q .next s') :
    wpAny (model prog w) A (execs (rowBody.drop 5) (fEnv w fnLaw L)) Q (fun _ _ => False) s := by
  dsimp only [rowBody, bdLaw, List.drop]
  obtain ⟨f1, f2, f3, f4, f5, f6, f7, f8, f9⟩ := M
  generalize hcs : ls.map columnsOf = cs at *
  walk_at "st"
  walk_at "st"
  refine list_disp ?_
  (repeat (walk_at "st"))
  refine ⟨Nat.zero_le _, fun t0 s₁ k₁ ht0 hpt0 => ?_⟩
  obtain ⟨g1, hg1, hin1, X1⟩ := X.grow k₁
  have hl1 : g1.IsList t0 ([] : List Value).toArray := by obtain ⟨n, e⟩ := hpt0; exact ⟨_, hin1 _ _ e ht0, rfl, n, rfl⟩
  (first | (refine' put_l ?xz44 ?kz44 ?_ ?hlz44 ?hkz44 ?hocz44; (case xz44 => assumption); (case hlz44 => rfl); (case hocz44 => rfl); (case hkz44 => rfl); (case kz44 => walk_at "kp")) | (refine' put_c ?xz44 ?kz44 ?_ ?hlz44 ?hkz44 ?hocz44 ?hez44; (case xz44 => assumption); (case hlz44 => rfl); (case hocz44 => rfl); (case hez44 => rfl); (case hkz44 => rfl); (case kz44 => walk_at "kp")))
  intro s₂ X2
  try dsimp only
  walk_at "st"
  have hhl : (heldL cs r).length ≤ r := by have := List.length_filter_le (heldB cs r) (List.range r); rw [List.length_range] at this; exact this
  let J : Nat → Shared → Prop := PileJ s₀ g (fEnv w fnLaw L) (fEnv w fnLaw L).cells la da du uo of pl sy ab go lx ls cs sv av gv fr r pt tr tp
  refine wpAny_mono (Q := fun f s' => f = .next ∧ ∃ k, J k s' ∧ (∀ p, (heldL cs r)[k - 1]? = some p → 0 < k → lessAt cs p r = true)) (while_mk J (heldL cs r).length PassesOwn.never ?_ fun k s₃ hJ => ?_) (fun f s₃ hq => ?_) (fun _ _ e => e)
  · refine ⟨g1, _, [], t0, pv, hg1, X2, Nat.le_refl _, ?_, ?_, hl1, ?_, ⟨by walk_at "mv", by walk_at "mv", by walk_at "mv", by walk_at "mv", by walk_at "mv", by walk_at "mv", by walk_at "mv", by walk_at "mv", by walk_at "mv"⟩, by walk_at "mv", by walk_at "mv", by walk_at "mv", by walk_at "mv"⟩
    · rw [List.take_of_length_le (Nat.le_refl _)]; exact hp.keeps hg1
    · rw [List.drop_of_length_le (Nat.le_refl _)]; intro p hp; cases hp
    · rw [List.drop_of_length_le (Nat.le_refl _)]; exact RdAll.nil
  · obtain ⟨gk, m', vt, tk, pv', hgk, X3, hk, hpk, hoff, htk, hrd, ⟨f1, f2, f3, f4, f5, f6, f7, f8, f9⟩, n1, n2, n3, n4⟩ := hJ
    have B3 := B.keeps (hgk.trans X3.keep)
    have hpl := hpk.len
    rw [List.length_take] at hpl
    refine hideQ fun Q1 hQ1 => ?_
    walk_at "st"
    walk_at "st"
    (repeat (walk_at "st"))
    refine len_k (X3.own_list (Keeps.refl _) (.head _)).isList (sz_of (by omega)) fun t4 s₄ k₄ e₄ => ?_
    have X4 := X3.keeps k₄
    (repeat (walk_at "st"))
    have hJK : ∀ s', Keeps s₃ s' → J k s' := fun s' kk => ⟨gk, m', vt, tk, pv', hgk, X3.keeps kk, hk, hpk, hoff, htk, hrd, ⟨f1, f2, f3, f4, f5, f6, f7, f8, f9⟩, n1, n2, n3, n4⟩
    cases k with
    | zero =>
      have e0 : pv'.length = 0 := by omega
      rw [e0, if_neg (by decide)]
      refine hQ1 _ _ ?_
      rw [if_neg (by decide)]
      exact ⟨rfl, 0, hJK _ (by walk_at "kp"), fun _ _ q => absurd q (by decide)⟩
    | succ j =>
      rw [if_pos (by simp; omega)]
      have hjl : j < (heldL cs r).length := by omega
      have etk : (heldL cs r).take (j + 1) = (heldL cs r).take j ++ [(heldL cs r).getD j 0] := take_snoc (get_lk hjl)
      obtain ⟨pv'', p, x, tq, rfl, hpk2, htp, hwx⟩ := PileAt.last hpk etk
      have hmq : (heldL cs r).getD j 0 ∈ heldL cs r := List.mem_of_getElem? (get_lk hjl)
      have hgj : (heldL cs r)[j]? = some ((heldL cs r).getD j 0) := get_lk hjl
      generalize (heldL cs r).getD j 0 = q at *
      have hqr := held_mem hmq
      have hpl2 : pv''.length = j := by rw [List.length_append] at hpl; simp at hpl; omega
      have B4 := B3.keeps (Keeps.ext k₄)
      have hx4 : WsAt s₄.heap x (wsOf (ls.getD q [])) := hwx.keeps X4.keep
      obtain ⟨fx, tn, tnt, tb, tnorm, tcnt, vs, h1, h2, h3, h4, h5, h6, h7, h8, h9, h10, h11, h12⟩ := id hx4
      (repeat (walk_at "st"))
      refine MethodCall_ ?_
      refine Subscript_ ?_
      (repeat (walk_at "st"))
      refine item_neg (X4.own_list (by walk_at "kp") (.head _)).isList (by decide) (by simp; omega) (by decide) (v := .ref p) (by rw [List.length_append]; simp [show (-1 + ((pv''.length : Int) + 1)).toNat = pv''.length by omega]) ?_ rfl
      (repeat (walk_at "st"))
      refine item_t (isTuple_keeps htp X4.keep) (by decide) (by decide) rfl ?_ rfl
      refine getm_inst B4 h1 h12 ?_ rfl rfl
      try dsimp only
      refine call_meth fnLess B4 ?_ rfl
      (repeat (walk_at "st"))
      refine ⟨B4, ?_⟩
      have hq7 : q < 7 := Nat.lt_trans hqr hr
      refine less_spec B4 R hx4 (hlx.keeps (hgk.trans X4.keep)) (H.ok hq7) (H.ok hr) fun s₅ k₅ => ?_
      rw [H.less hq7 hr, hcs]
      (repeat (walk_at "st"))
      cases hle : lessAt cs q r with
      | true =>
        rw [if_neg (by decide)]
        refine hQ1 _ _ ?_
        refine ⟨rfl, j + 1, hJK _ (Keeps.trans k₄ (Keeps.trans (keeps_tok _ _) k₅)), fun p' hp' _ => ?_⟩
        rw [Nat.add_sub_cancel, hgj] at hp'
        cases hp'
        exact hle
      | false =>
        rw [if_pos (by decide)]
        (repeat (walk_at "st"))
        refine hQ1 _ _ ?_
        refine ⟨j, rfl, ?_⟩
        refine hideQ fun Q2 hQ2 => ?_
        have X5 := X4.keeps (Keeps.trans (keeps_tok _ _) k₅)
        walk_at "st"
        refine Assign_Tuple ?_
        refine MethodCall_ ?_
        (repeat (walk_at "st"))
        refine getm_pop (X5.own_list (by walk_at "kp") (.head _)) ?_
        try dsimp only
        refine callWith_method0 ?_
        refine pop_own (pre := []) X5 (by walk_at "kp") (fun s₆ X6 => ?_) (sz_of (by omega))
        refine pair_st R.hh X6 (Keeps.refl _) (isTuple_keeps htp X6.keep) (fun s₇ X7 => ?_) rfl rfl rfl rfl rfl
        try dsimp only
        have B7 := B.keeps (hgk.trans X7.keep)
        have hx7 : WsAt s₇.heap x (wsOf (ls.getD q [])) := hwx.keeps X7.keep
        obtain ⟨fx', _, _, _, _, _, _, h1', _, _, _, _, _, _, _, _, _, h11', _⟩ := id hx7
        walk_at "st"
        walk_at "st"
        walk_at "st"
        refine list_disp ?_
        walk_at "st"
        refine tuple_disp ?_
        (repeat (walk_at "st"))
        refine MethodCall_ ?_
        (repeat (walk_at "st"))
        refine getm_inst B7 h1' h11' ?_ rfl rfl
        try dsimp only
        refine call_meth fnEqual B7 ?_ rfl
        (repeat (walk_at "st"))
        refine ⟨B7, ?_⟩
        refine equal_spec B7 R hx7 (hlx.keeps (hgk.trans X7.keep)) fun s₈ k₈ => ?_
        rw [H.eq hq7 hr, hcs]
        have X8 := X7.keeps k₈
        (repeat (walk_at "st"))
        refine ⟨sz_of (show 2 ≤ 1000 by decide), fun t9 s₉ k₉ hn9 ht9 => ?_⟩
        have X9 := X8.keeps k₉
        (repeat (walk_at "st"))
        refine ⟨sz_of (show 1 ≤ 1000 by decide), fun l10 s₁₀ k₁₀ hn10 hp10 => ?_⟩
        have X10 := X9.keeps k₁₀
        (repeat (walk_at "st"))
        have hvt := hrd.len
        rw [List.length_map, List.length_drop] at hvt
        refine add_k hp10.isList (isList_keeps htk X10.keep) (by rw [sizeLine_eq]; show 1 + _ ≤ _; omega) fun l11 s₁₁ k₁₁ hn11 hp11 => ?_
        have k811 : Keeps s₈ s₁₁ := Keeps.trans k₉ (Keeps.trans k₁₀ k₁₁)
        obtain ⟨g11, hg11, hin11, X11⟩ := X8.grow k811
        have ht11 := isTuple_new hin11 hn9 (isTuple_keeps ht9 (Keeps.ext (Keeps.trans k₁₀ k₁₁)))
        have hl11 := isList_new hin11 (not_before (Keeps.ext (Keeps.trans k₉ k₁₀)) hn11) hp11.isList
        (first | (refine' put_l ?xz45 ?kz45 ?_ ?hlz45 ?hkz45 ?hocz45; (case xz45 => assumption); (case hlz45 => rfl); (case hocz45 => rfl); (case hkz45 => rfl); (case kz45 => walk_at "kp")) | (refine' put_c ?xz45 ?kz45 ?_ ?hlz45 ?hkz45 ?hocz45 ?hez45; (case xz45 => assumption); (case hlz45 => rfl); (case hocz45 => rfl); (case hez45 => rfl); (case hkz45 => rfl); (case kz45 => walk_at "kp")))
        intro s₁₂ X12
        try dsimp only
        (repeat (walk_at "st"))
        have edk : (heldL cs r).drop j = q :: (heldL cs r).drop (j + 1) := by
          rw [List.drop_eq_getElem_cons hjl]
          rw [List.getElem?_eq_getElem hjl] at hgj
          rw [Option.some.inj hgj]
        refine hQ2 _ _ ?_
        refine ⟨g11, _, _, _, _, hgk.trans hg11, X12, by omega, hpk2.keeps hg11, ?_, hl11, ?_, ⟨by walk_at "mv", by walk_at "mv", by walk_at "mv", by walk_at "mv", by walk_at "mv", by walk_at "mv", by walk_at "mv", by walk_at "mv", by walk_at "mv"⟩, by walk_at "mv", by walk_at "mv", by walk_at "mv", by walk_at "mv"⟩
        · rw [edk]
          intro p' hp'
          rcases List.mem_cons.mp hp' with rfl | hp'
          · exact hle
          · exact hoff p' hp'
        · rw [edk]
          exact RdAll.cons (Rd.tuple ht11 (RdAll.cons (Rd.int _ _) (RdAll.cons (Rd.bool _) RdAll.nil))) (hrd.keeps hg11)
  · obtain ⟨rfl, k, ⟨gk, m', vt, tk, pv', hgk, X3, hk, hpk, hoff, htk, hrd, ⟨f1, f2, f3, f4, f5, f6, f7, f8, f9⟩, n1, n2, n3, n4⟩, hon⟩ := hq
    obtain ⟨es, eo⟩ := stay_take hk hoff hon
    try dsimp only
    rw [← es] at hpk
    have hrd' : RdAll gk vt ((offRow cs r).map pairD) := by rw [eo, List.map_map]; exact hrd
    have hpl := hpk.len
    have hsl : (stayL cs r).length ≤ r := by rw [es, List.length_take]; omega
    have B3 := B.keeps (hgk.trans X3.keep)
    walk_at "st"
    walk_at "st"
    refine MethodCall_ ?_
    (repeat (walk_at "st"))
    refine getm_append (X3.own_list (Keeps.refl _) (.tail _ (.head _))) ?_
    try dsimp only
    refine callWith_method1 ?_
    (repeat (walk_at "st"))
    have hp9 : pv'.length ≤ 1000 := by omega
    refine append_own (pre := [(pl, listO pv')]) (post := [(ab, listO av), (go, listO gv)] ++ fr) X3 (Keeps.refl _) (fun s₄ X4 => ?_) (sz_of (Nat.le_trans hsv (by decide)))
    try dsimp only
    have B4 := B.keeps (hgk.trans X4.keep)
    walk_at "st"
    walk_at "st"
    refine MethodCall_ ?_
    (repeat (walk_at "st"))
    refine getm_append (X4.own_list (Keeps.refl _) (.tail _ (.tail _ (.head _)))) ?_
    try dsimp only
    refine callWith_method1 ?_
    walk_at "st"
    refine wpAny_mono (Q := fun v s' => (∃ ta, v = Value.int (if r = 0 then -1 else ((stayL cs r).getLastD 0 : Nat)) ta) ∧ Keeps s₄ s') ?_ (fun v s₆ hq => ?_) (fun _ _ e => e)
    · (repeat (walk_at "st"))
      refine len_k (X4.own_list (Keeps.refl _) (.head _)).isList (sz_of hp9) fun t5 s₅ k₅ e₅ => ?_
      have X5 := X4.keeps k₅
      (repeat (walk_at "st"))
      by_cases hr0 : r = 0
      · subst hr0
        rw [if_pos rfl]
        rw [show pv'.length = 0 by omega, if_neg (by decide)]
        (repeat (walk_at "st"))
        exact ⟨⟨_, rfl⟩, Keeps.trans k₅ (keeps_tok _ _)⟩
      · rw [if_neg hr0]
        have hne : stayL cs r ≠ [] := stay_ne (fun q h1 h2 => by rw [← hcs]; exact H.first q h1 (by rw [← hcs, List.length_map, H.len] at h2; exact h2)) (by omega) (by rw [← hcs, List.length_map, H.len]; exact hr)
        obtain ⟨qs, q, eq⟩ : ∃ qs q, stayL cs r = qs ++ [q] := snoc_of _ hne
        obtain ⟨pv'', p, x, tq, rfl, hpk2, htp, hwx⟩ := PileAt.last hpk eq
        rw [if_pos (by simp), eq]
        (repeat (walk_at "st"))
        have hl2 : (pv'' ++ [Value.ref p]).length = pv''.length + 1 := by simp
        refine item_neg (X5.own_list (by walk_at "kp") (.head _)).isList (by decide) (by omega) (by decide) (v := .ref p) (by rw [show (-1 + ((pv'' ++ [Value.ref p]).length : Int)).toNat = pv''.length by omega]; simp) ?_ rfl
        (repeat (walk_at "st"))
        refine item_t (isTuple_keeps htp X5.keep) (by decide) (by decide) rfl ?_ rfl
        exact ⟨⟨tq, by simp⟩, Keeps.trans k₅ (keeps_tok _ _)⟩
    obtain ⟨⟨ta, rfl⟩, k₆⟩ := hq
    (repeat (walk_at "st"))
    refine append_own (pre := [(pl, listO pv'), (sy, listO (sv ++ [.int pt tp]))]) (post := (go, listO gv) :: fr) X4 k₆ (fun s₇ X7 => ?_) (sz_of (Nat.le_trans hav (by decide)))
    try dsimp only
    walk_at "st"
    walk_at "st"
    refine MethodCall_ ?_
    (repeat (walk_at "st"))
    refine getm_append (X7.own_list (Keeps.refl _) (.tail _ (.tail _ (.tail _ (.head _))))) ?_
    try dsimp only
    refine callWith_method1 ?_
    (repeat (walk_at "st"))
    refine append_own (pre := [(pl, listO pv'), (sy, listO (sv ++ [.int pt tp])), (ab, listO _)]) (post := fr) X7 (Keeps.refl _) (fun s₈ X8 => ?_) (sz_of (Nat.le_trans hgv (by decide)))
    try dsimp only
    walk_at "st"
    walk_at "st"
    refine MethodCall_ ?_
    (repeat (walk_at "st"))
    refine getm_append (X8.own_list (Keeps.refl _) (.head _)) ?_
    try dsimp only
    refine callWith_method1 ?_
    (repeat (walk_at "st"))
    refine tuple_disp ?_
    (repeat (walk_at "st"))
    refine ⟨sz_of (show 2 ≤ 1000 by decide), fun t9 s₉ k₉ hn9 ht9 => ?_⟩
    obtain ⟨g9, hg9, hin9, X9⟩ := X8.grow k₉
    have ht9' := isTuple_new hin9 hn9 ht9
    (repeat (walk_at "st"))
    refine append_own (pre := []) (post := [(sy, listO (sv ++ [.int pt tp])), (ab, listO _), (go, listO _)] ++ fr) X9 (Keeps.refl _) (fun s₁₀ X10 => ?_) (sz_of hp9)
    try dsimp only
    (repeat (walk_at "st"))
    refine h g9 _ _ tk vt tp ta s₁₀ (hgk.trans hg9) ⟨by walk_at "mv", by walk_at "mv", by walk_at "mv", by walk_at "mv", by walk_at "mv", by walk_at "mv", by walk_at "mv", by walk_at "mv", by walk_at "mv"⟩ ?_ (isList_keeps htk hg9) (hrd'.keeps hg9) X10
    rw [held_succ]
    exact .snoc (hpk.keeps hg9) ht9' (hlx.keeps (hgk.trans hg9))
/-! part G16 -/
theorem str_app (a b : List Nat) : (⟨a.toArray⟩ : Str) ++ (⟨b.toArray⟩ : Str) = ⟨(a ++ b).toArray⟩ := by
  show Str.mk (a.toArray ++ b.toArray) = _
  congr 1
  simp
theorem mark_item (i : Int) (h : i = 0 ∨ i = 1 ∨ i = 2 ∨ i = 3) : Txt.item (Str.ofString "|!#x") i = ⟨#[marksOf.getD i.toNat 0]⟩ ∧ fitsSsize i = true ∧ -((Str.ofString "|!#x").length : Int) ≤ i ∧ i < ((Str.ofString "|!#x").length : Int) ∧ marksOf.getD i.toNat 0 ∈ marksOf := by
  rcases h with rfl | rfl | rfl | rfl <;> decide
theorem open_str : Str.ofString "229 (" = ⟨[50, 50, 57, 32, 40].toArray⟩ := by decide
theorem close_str : Str.ofString ")" = ⟨[41].toArray⟩ := by decide
theorem slice_rest (l r : List Nat) : Txt.slice ⟨(l ++ r).toArray⟩ (some (l.length : Int)) none = ⟨r.toArray⟩ := by
  have e : ((⟨(l ++ r).toArray⟩ : Str).length : Int) = ((l.length + r.length : Nat) : Int) := by
    show (((l ++ r).toArray.size : Nat) : Int) = _
    simp
  rw [slice_from_eq (b := ((l.length + r.length : Nat) : Int)) (by omega) (by rw [e]; omega) e.symm]
  congr 1
  simp
  rw [List.take_of_length_le (by omega)]
theorem len_app {a b : List Nat} {m n : Nat} (h : a.length ≤ m) (h' : b.length ≤ n) : (a ++ b).length ≤ m + n := by rw [List.length_append]; exact Nat.add_le_add h h'
theorem add_l_k {prog : Program} {w : World} {A : Around} {E : Value → Shared → Prop} {s : Shared} {a b : List Nat} {t u : Tok} {Q : Value → Shared → Prop} {m : Nat} (hl : (a ++ b).length ≤ m) (hm : m ≤ 10000)
    (h : ∀ t' s', Keeps s s' → s'.heap = s.heap → Q (.str ⟨(a ++ b).toArray⟩ t') s') : wpAny (model prog w) A (binaryOp .Add (.str ⟨a.toArray⟩ t) (.str ⟨b.toArray⟩ u)) Q E s := by
  refine add_str_k (by rw [str_app]; show (a ++ b).toArray.size ≤ 10000; rw [List.size_toArray]; exact Nat.le_trans hl hm) fun t' s' k e => ?_
  rw [str_app]
  exact h t' s' k e
theorem digs_len (d : Nat) : (digs d).length ≤ 3 := by
  unfold digs
  split
  · simp
  · split <;> simp
set_option maxHeartbeats 4000000 in
theorem law_R0 {prog : Program} {w : World} {A : Around} {s₀ s : Shared} {g : Heap} {L : Addr} {m : Str → Option Value} {la da du uo of pl sy ab go : Addr} {ls : List (List Nat)} {ds D : List Int} {vl vd vu pv sv av gv : List Value} {fr : Own} {r : Nat} {tr : Tok} {Q : Flow → Shared → Prop} {d : Nat}
    (B : Base w g) (R : Room A (d + 3)) (H : Leads ls) (hr : r < 7) (X : St s₀ g (fEnv w fnLaw L) (fEnv w fnLaw L).cells m ([(pl, listO pv), (sy, listO sv), (ab, listO av), (go, listO gv)] ++ fr) s)
    (M : LawM m la da du uo of pl sy ab go) (m2 : m "r" = some (.int r tr))
    (hla : g.IsList la vl.toArray) (lvl : vl.length = 7) (hvl : ∀ q, q < 7 → ∃ t, vl[q]? = some (.str ⟨(ls.getD q []).toArray⟩ t)) (hda : g.IsList da vd.toArray) (hvd : IntsAre vd ds) (hdu : g.IsList du vu.toArray) (hvu : IntsAre vu D) (lD : D.length = 7)
    (hD : ∀ q, q < 7 → ∃ n : Nat, D.getD q 0 = n ∧ n < 262)
    (hp : PileAt g ls pv (heldL (ls.map columnsOf) r)) (hsv : sv.length ≤ 7) (hav : av.length ≤ 7) (hgv : gv.length ≤ 7)
    (h : ∀ g' m' pv' tk vt tp' ta s', Ext g g' → LawM m' la da du uo of pl sy ab go → PileAt g' ls pv' (heldL (ls.map columnsOf) (r + 1)) → g'.IsList tk vt.toArray → RdAll g' vt ((offRow (ls.map columnsOf) r).map pairD) →
      St s₀ g' (fEnv w fnLaw L) (fEnv w fnLaw L).cells m' ([(pl, listO pv'), (sy, listO (sv ++ [.int (D.getD r 0) tp'])), (ab, listO (av ++ [.int (if r = 0 then -1 else ((stayL (ls.map columnsOf) r).getLastD 0 : Nat)) ta])), (go, listO (gv ++ [.ref tk]))] ++ fr) s' → Q .next s') :
    wpAny (model prog w) A (execs rowBody (fEnv w fnLaw L)) Q (fun _ _ => False) s := by
  dsimp only [rowBody, bdLaw, List.drop]
  obtain ⟨f1, f2, f3, f4, f5, f6, f7, f8, f9⟩ := M
  obtain ⟨dn, edn, hdn⟩ := hD r hr
  obtain ⟨tl, etl⟩ := hvl r hr
  obtain ⟨td, etd⟩ := IntsAre.get' hvu (get_lk (d := 0) (by omega : r < D.length))
  rw [edn] at etd h
  obtain ⟨hl5, hlz⟩ := lead_ok (H.at hr)
  have hws := (ws_small (ls.getD r [])).2.2.1
  generalize hlead : ls.getD r [] = lead at *
  have B0 := B.keeps X.keep
  walk_at "st"
  walk_at "st"
  (repeat (walk_at "st"))
  refine sum_k R.hh (isList_keeps hda X.keep) hvd fun t1 s₁ k₁ => ?_
  have X1 := X.keeps k₁
  (repeat (walk_at "st"))
  refine mod_int' (by decide) ?_
  have hmod : (ds.sum + (r : Int)).fmod 4 = (ds.sum + (r : Int)) % 4 := Int.fmod_eq_emod_of_nonneg _ (by decide)
  obtain ⟨hmi, hf1, hf2, hf3, hmm⟩ := mark_item ((ds.sum + (r : Int)).fmod 4) (by rw [hmod]; exact mod4 _)
  refine item_str hf1 hf2 hf3 (fun _ => ?_)
  rw [hmi]
  generalize marksOf.getD _ 0 = mk at *
  (first | (refine' put_l ?xz46 ?kz46 ?_ ?hlz46 ?hkz46 ?hocz46; (case xz46 => assumption); (case hlz46 => rfl); (case hocz46 => rfl); (case hkz46 => rfl); (case kz46 => walk_at "kp")) | (refine' put_c ?xz46 ?kz46 ?_ ?hlz46 ?hkz46 ?hocz46 ?hez46; (case xz46 => assumption); (case hlz46 => rfl); (case hocz46 => rfl); (case hez46 => rfl); (case hkz46 => rfl); (case kz46 => walk_at "kp")))
  intro s₂ X2
  try dsimp only
  have B2 := B.keeps X2.keep
  walk_at "st"
  walk_at "st"
  (repeat (walk_at "st"))
  refine item_n (isList_keeps hla X2.keep) (by omega) etl ?_ rfl
  (repeat (walk_at "st"))
  rw [open_str]
  have l1 : (lead ++ [50, 50, 57, 32, 40]).length ≤ 5 + 5 := len_app hl5 (Nat.le_refl 5)
  have l2 := len_app l1 (show [mk, mk, mk].length ≤ 3 from Nat.le_refl 3)
  have l3 := len_app l2 (digs_len dn)
  have l4 := len_app l3 (show [mk].length ≤ 1 from Nat.le_refl 1)
  have l5 := len_app l4 (show [41].length ≤ 1 from Nat.le_refl 1)
  refine add_l_k l1 (by decide) fun t3 s₃ k₃ e₃ => ?_
  have X3 := X2.keeps (Keeps.trans (keeps_tok _ _) k₃)
  (repeat (walk_at "st"))
  refine mul_str3 fun t4 s₄ e₄ k₄ => ?_
  rw [show (⟨#[mk, mk, mk]⟩ : Str) = ⟨[mk, mk, mk].toArray⟩ from rfl]
  have X4 := X3.keeps (Keeps.trans (keeps_tok _ _) k₄)
  refine add_l_k l2 (by decide) fun t5 s₅ k₅ e₅ => ?_
  have X5 := X4.keeps k₅
  have B5 := B.keeps X5.keep
  (repeat (walk_at "st"))
  refine item_n (isList_keeps hdu X5.keep) (by omega) etd ?_ rfl
  (repeat (walk_at "st"))
  refine P.str_of_int (by rw [Int.natAbs_natCast]; have := Nat.log2_le_self dn; omega) ?_
  rw [show (Str.ofString (toString (dn : Int))) = ⟨(digs dn).toArray⟩ from digs_str hdn]
  refine add_l_k l3 (by decide) fun t6 s₆ k₆ e₆ => ?_
  have X6 := X5.keeps (Keeps.trans (keeps_tok _ _) k₆)
  (repeat (walk_at "st"))
  rw [show (⟨#[mk]⟩ : Str) = ⟨[mk].toArray⟩ from rfl]
  refine add_l_k l4 (by decide) fun t7 s₇ k₇ e₇ => ?_
  have X7 := X6.keeps k₇
  (repeat (walk_at "st"))
  rw [close_str]
  refine add_l_k l5 (by decide) fun t8 s₈ k₈ e₈ => ?_
  have erow : lead ++ [50, 50, 57, 32, 40] ++ [mk, mk, mk] ++ digs dn ++ [mk] ++ [41] = lead ++ repD mk dn := by unfold repD; simp
  rw [erow]
  have X8 := X7.keeps (Keeps.trans (keeps_tok _ _) k₈)
  (first | (refine' put_l ?xz47 ?kz47 ?_ ?hlz47 ?hkz47 ?hocz47; (case xz47 => assumption); (case hlz47 => rfl); (case hocz47 => rfl); (case hkz47 => rfl); (case kz47 => walk_at "kp")) | (refine' put_c ?xz47 ?kz47 ?_ ?hlz47 ?hkz47 ?hocz47 ?hez47; (case xz47 => assumption); (case hlz47 => rfl); (case hocz47 => rfl); (case hez47 => rfl); (case hkz47 => rfl); (case kz47 => walk_at "kp")))
  intro s₉ X9
  try dsimp only
  have B9 := B.keeps X9.keep
  have F := rep_facts hmm hdn
  walk_at "st"
  walk_at "st"
  (repeat (walk_at "st"))
  refine callWith_K (K := frag w.params) B9.K rfl ?_
  (repeat (walk_at "st"))
  refine ⟨B9.K, ?_⟩
  refine ws_spec B9 R hlz ⟨_, by unfold repD; rfl⟩ F.asc (by omega) fun lx s₁₀ k₁₀ hnx hwx => ?_
  obtain ⟨g10, hg10, hin10, X10⟩ := X9.grow k₁₀
  have hwx10 := hwx g10 hin10
  (first | (refine' put_l ?xz48 ?kz48 ?_ ?hlz48 ?hkz48 ?hocz48; (case xz48 => assumption); (case hlz48 => rfl); (case hocz48 => rfl); (case hkz48 => rfl); (case kz48 => walk_at "kp")) | (refine' put_c ?xz48 ?kz48 ?_ ?hlz48 ?hkz48 ?hocz48 ?hez48; (case xz48 => assumption); (case hlz48 => rfl); (case hocz48 => rfl); (case hez48 => rfl); (case hkz48 => rfl); (case kz48 => walk_at "kp")))
  intro s₁₁ X11
  try dsimp only
  have B11 := B.keeps (hg10.trans X11.keep)
  obtain ⟨fx, tn, _, _, _, _, _, h1, h2, _⟩ := (hwx10.keeps X11.keep)
  walk_at "st"
  refine Assign_Tuple ?_
  (repeat (walk_at "st"))
  refine call_own fnParse B11 ?_ rfl
  walk_at "st"
  walk_at "st"
  (repeat (walk_at "st"))
  refine Attribute_name ?_
  walk_at "st"
  refine getattr_inst B11 h1 h2 rfl ?_ rfl
  (repeat (walk_at "st"))
  refine ⟨_, _, some (_, tn), none, rfl, rfl, rfl, ?_, fun t12 s₁₂ k₁₂ => ?_⟩
  · have := F.len
    unfold rep at this
    have e : ∀ l : List Nat, (⟨l.toArray⟩ : Str).length = l.length := fun l => by show l.toArray.size = _; simp
    rw [e] at this ⊢
    rw [List.length_append]; omega
  have es : Txt.slice ⟨(lead ++ repD mk dn).toArray⟩ (some ((wsOf lead).n : Int)) none = rep mk dn := by rw [hws]; exact slice_rest _ _
  dsimp only [Option.map]
  rw [es]
  have X12 := X11.keeps (Keeps.trans (keeps_tok _ _) k₁₂)
  (repeat (walk_at "st"))
  refine tuple_disp ?_
  (repeat (walk_at "st"))
  refine ⟨sz_of (show 2 ≤ 1000 by decide), fun p13 s₁₃ k₁₃ hn13 ht13 => ?_⟩
  have X13 := X12.keeps (Keeps.trans (keeps_tok _ _) k₁₃)
  have B13 := B.keeps (hg10.trans X13.keep)
  (repeat (walk_at "st"))
  refine ⟨B13, ?_⟩
  refine parse_spec B13 R hmm hdn ht13 fun D14 t14 s₁₄ k₁₄ hn14 ht14 => ?_
  refine pair_st R.hh X13 k₁₄ ht14 (fun s₁₅ X15 => ?_) rfl rfl rfl rfl rfl
  try dsimp only
  walk_at "st"
  walk_at "st"
  (repeat (walk_at "st"))
  refine P.ne_str ?_
  rw [show ((Str.ofString "h").cps.toList != (Str.ofString "h").cps.toList) = false by decide]
  (repeat (walk_at "st"))
  rw [if_neg Bool.false_ne_true]
  walk_at "st"
  try dsimp only
  have X16 := X15.toks (s₁₅.toks + 1)
  refine law_R1 (d := d) (tp := t14) (tr := tr) (B.keeps hg10) R H hr X16 ?hM ?hm1 ?hm2 ?hm3 (by rw [hlead]; exact hwx10) (hp.keeps hg10) hsv hav hgv
    fun g' m' pv' tk vt tp' ta s' k1 M' hp' ht' hr' X' => h g' m' pv' tk vt tp' ta s' (hg10.trans k1) M' hp' ht' hr' X'
  case hM => exact ⟨by walk_at "mv", by walk_at "mv", by walk_at "mv", by walk_at "mv", by walk_at "mv", by walk_at "mv", by walk_at "mv", by walk_at "mv", by walk_at "mv"⟩
  case hm1 => walk_at "mv"
  case hm2 => walk_at "mv"
  case hm3 => walk_at "mv"
/-! part G17 -/
theorem lay_pairs : ∀ r : List (Nat × Bool), PyData.canLayAll0 (r.map pairD) = true
  | [] => rfl
  | _ :: r => by show (true && PyData.canLayAll0 (r.map pairD)) = true; rw [lay_pairs r]; rfl
theorem lay_off : ∀ l : List (List (Nat × Bool)), PyData.canLayAll0 (offD l) = true
  | [] => rfl
  | r :: l => by show (PyData.canLayAll0 (r.map pairD) && PyData.canLayAll0 (offD l)) = true; rw [lay_pairs r, lay_off l]; rfl
theorem depth_pairs : ∀ r : List (Nat × Bool), PyData.depthAll (r.map pairD) ≤ 1
  | [] => Nat.zero_le _
  | _ :: r => Nat.max_le.mpr ⟨Nat.le_refl _, depth_pairs r⟩
theorem depth_off : ∀ l : List (List (Nat × Bool)), PyData.depthAll (offD l) ≤ 2
  | [] => Nat.zero_le _
  | r :: l => Nat.max_le.mpr ⟨Nat.succ_le_succ (depth_pairs r), depth_off l⟩
theorem upon_get {cs : List (List Int)} {i : Nat} (h : i < cs.length) : (uponL cs)[i]? = some (if i = 0 then (-1 : Int) else (((stayL cs i).getLastD 0 : Nat) : Int)) := by
  unfold uponL
  cases i with
  | zero => rfl
  | succ k => rw [List.getElem?_cons_succ, List.getElem?_map, List.getElem?_range (by omega), if_neg (Nat.succ_ne_zero k)]; rfl
theorem off_get {cs : List (List Int)} {i : Nat} (h : i < cs.length) : (offL cs)[i]? = some (offRow cs i) := by
  unfold offL
  cases i with
  | zero => rfl
  | succ k => rw [List.getElem?_cons_succ, List.getElem?_map, List.getElem?_range (by omega)]; rfl
theorem off_take {cs : List (List Int)} (h7 : cs.length = 7) : (offL cs).take 7 = offL cs := List.take_of_length_le (by unfold offL; simp; omega)

inductive RowsJ (la da du uo of pl sy ab go : Addr) (ls : List (List Nat)) (D : List Int) (i : Nat) (gi : Heap) (m' : Str → Option Value) (own' : Own) : Prop
  | mk (pv sv av gv : List Value) (h0 : own' = [(pl, listO pv), (sy, listO sv), (ab, listO av), (go, listO gv)]) (h1 : LawM m' la da du uo of pl sy ab go) (h2 : PileAt gi ls pv (heldL (ls.map columnsOf) i)) (h3 : IntsAre sv (D.take i))
      (h4 : IntsAre av ((uponL (ls.map columnsOf)).take i)) (h5 : RdAll gi gv (offD ((offL (ls.map columnsOf)).take i))) : RowsJ la da du uo of pl sy ab go ls D i gi m' own'
set_option maxHeartbeats 4000000 in
theorem law_B {prog : Program} {w : World} {A : Around} {s₀ s : Shared} {g : Heap} {L : Addr} {m : Str → Option Value} {la da du uo of : Addr} {ls : List (List Nat)} {ds D : List Int} {vl vd vu vuo vof : List Value} {Q : Value → Shared → Prop} {d : Nat}
    (B : Base w g) (R : Room A (d + 3)) (H : Leads ls) (X : St s₀ g (fEnv w fnLaw L) (fEnv w fnLaw L).cells m [] s)
    (n1 : m "leads" = some (.ref la)) (n2 : m "draws" = some (.ref da)) (n3 : m "due" = some (.ref du)) (n4 : m "upon" = some (.ref uo)) (n5 : m "off" = some (.ref of))
    (hla : g.IsList la vl.toArray) (lvl : vl.length = 7) (hvl : ∀ q, q < 7 → ∃ t, vl[q]? = some (.str ⟨(ls.getD q []).toArray⟩ t)) (hda : g.IsList da vd.toArray) (hvd : IntsAre vd ds) (hdu : g.IsList du vu.toArray) (hvu : IntsAre vu D) (lD : D.length = 7)
    (hD : ∀ q, q < 7 → ∃ n : Nat, D.getD q 0 = n ∧ n < 262) (huo : g.IsList uo vuo.toArray) (hvuo : IntsAre vuo (uponL (ls.map columnsOf))) (hof : g.IsList of vof.toArray) (hvof : RdAll g vof (offD (offL (ls.map columnsOf)))) (hlike : dueLike D (uponL (ls.map columnsOf)))
    (h : ∀ s' g' m', Ext g g' → St s₀ g' (fEnv w fnLaw L) (fEnv w fnLaw L).cells m' [] s' → Q (.bool true) s') :
    wpAny (model prog w) A (execs (bdLaw.1.drop 5) (fEnv w fnLaw L)) (fun f s' => Q (match f with | .ret v => v | _ => .none) s') (fun _ _ => False) s := by
  dsimp only [bdLaw, List.drop]
  have hlc : (ls.map columnsOf).length = 7 := by rw [List.length_map, H.len]
  obtain ⟨hc0, x, hx1, hx2⟩ := ershov_ok hlc (fun q h1 h2 => H.first q h1 (by omega)) hlike
  walk_at "st"
  refine Assign_Tuple ?_
  refine tuple_disp ?_
  (repeat (walk_at "st"))
  refine list_disp ?_
  (repeat (walk_at "st"))
  refine ⟨Nat.zero_le _, fun pl s₁ k₁ hn1 hp1 => ?_⟩
  have X1 := X.push_list hn1 k₁ hp1
  (repeat (walk_at "st"))
  refine list_disp ?_
  (repeat (walk_at "st"))
  refine ⟨Nat.zero_le _, fun sy s₂ k₂ hn2 hp2 => ?_⟩
  have X2 := X1.push_list hn2 k₂ hp2
  (repeat (walk_at "st"))
  refine list_disp ?_
  (repeat (walk_at "st"))
  refine ⟨Nat.zero_le _, fun ab s₃ k₃ hn3 hp3 => ?_⟩
  have X3 := X2.push_list hn3 k₃ hp3
  (repeat (walk_at "st"))
  refine list_disp ?_
  (repeat (walk_at "st"))
  refine ⟨Nat.zero_le _, fun go s₄ k₄ hn4 hp4 => ?_⟩
  have X4 := X3.push_list hn4 k₄ hp4
  (repeat (walk_at "st"))
  refine ⟨sz_of (show 4 ≤ 1000 by decide), fun t5 s₅ k₅ hn5 ht5 => ?_⟩
  refine four_st R.hh X4 k₅ ht5 (fun s₆ X6 => ?_) rfl rfl rfl rfl rfl rfl rfl rfl rfl rfl
  try dsimp only
  have X7 := X6.perm_own (own' := [(pl, listO []), (sy, listO []), (ab, listO []), (go, listO [])]) (List.reverse_perm [(pl, listO []), (sy, listO []), (ab, listO []), (go, listO [])]).symm
  clear X X1 X2 X3 X4 X6
  have B7 := B.keeps X7.keep
  walk_at "st"
  (refine for_mk ?_ ?hkz49 ?hsz49 ?hEz49; (case hkz49 => rfl); (case hsz49 => intro _; rfl); (case hEz49 => exact PassesOwn.never))
  (repeat (walk_at "st"))
  refine range1 fun r8 s₈ k₈ hr8 => ?_
  have X8 := X7.keeps k₈
  refine ⟨_, _, _, _, [(pl, listO []), (sy, listO []), (ab, listO []), (go, listO [])], [], _, _, _, RowsJ la da du uo of pl sy ab go ls D, X8,
    iterS_r0 (n := 7) R.hh hr8 rfl (by decide), by simp, by (exact .inl ⟨rfl, hoc_of rfl⟩), ⟨[], [], [], [], rfl, ⟨by walk_at "mv", by walk_at "mv", by walk_at "mv", by walk_at "mv", by walk_at "mv", by walk_at "mv", by walk_at "mv", by walk_at "mv", by walk_at "mv"⟩, .nil, .nil, .nil, RdAll.nil⟩, ?_, ?_⟩
  · intro i gi m' own' v I oI s₉ hi hgi hJ hP X9
    obtain ⟨pv, sv, av, gv, rfl, M, hp, hsv, hav, hgv⟩ := hJ
    obtain ⟨ti, rfl⟩ := hP
    have M' : LawM (upd m' "r" (.int i ti)) la da du uo of pl sy ab go := by
      obtain ⟨f1, f2, f3, f4, f5, f6, f7, f8, f9⟩ := M
      exact ⟨by walk_at "mv", by walk_at "mv", by walk_at "mv", by walk_at "mv", by walk_at "mv", by walk_at "mv", by walk_at "mv", by walk_at "mv", by walk_at "mv"⟩
    have l1 := hsv.length
    have l2 := hav.length
    have l3 := hgv.len
    rw [List.length_take] at l1 l2
    unfold offD at l3
    rw [List.length_map, List.length_take] at l3
    refine law_R0 (fr := [(I, (· = oI))]) (tr := ti) (d := d) (B.keeps hgi) R H hi X9 M' (upd_eq _ _ _) (isList_keeps hla hgi) lvl hvl (isList_keeps hda hgi) hvd (isList_keeps hdu hgi) hvu lD hD hp (min_le_l l1 (Nat.le_of_lt hi)) (min_le_l l2 (Nat.le_of_lt hi)) (min_le_l l3 (Nat.le_of_lt hi)) ?_
    intro g' m'' pv' tk vt tp' ta s' hg' M2 hp' htk hvt X'
    have hiD : i < D.length := by omega
    have hic : i < (ls.map columnsOf).length := by omega
    refine ⟨g', m'', _, hg', ⟨pv', _, _, _, rfl, M2, hp', ?_, ?_, ?_⟩, X'⟩
    · rw [take_snoc (get_lk (d := 0) hiD)]; exact IntsAre.snoc hsv _ _
    · rw [take_snoc (upon_get hic)]; exact IntsAre.snoc hav _ _
    · rw [take_snoc (off_get hic)]
      unfold offD
      rw [List.map_append]
      exact RdAll.append (RdAll.cons (Rd.list htk hvt) RdAll.nil) (hgv.keeps hg')
  · intro g9 m' own' s₉ hg9 hJ X9
    obtain ⟨pv, sv, av, gv, rfl, M, hp, hsv, hav, hgv⟩ := hJ
    try dsimp only
    rw [List.take_of_length_le (by omega)] at hsv
    rw [up_take hlc] at hav
    rw [off_take hlc] at hgv
    obtain ⟨g1, o1, hg1, Y1, eo1, po1⟩ := X9.settle (pre := [(pl, listO pv)]) (post := [(ab, listO av), (go, listO gv)])
    obtain ⟨g2, o2, hg2, Y2, eo2, po2⟩ := Y1.settle (pre := [(pl, listO pv)]) (post := [(go, listO gv)])
    have X10 := Y2.drop_own (List.nil_sublist _)
    have hsy := isList_keeps (plain_of eo1 po1).isList hg2
    have hab := (plain_of eo2 po2).isList
    have k9 : Ext g9 g2 := hg1.trans hg2
    have hgo := (X9.own_list (Keeps.refl _) (l := go) (ys := gv) (.tail _ (.tail _ (.tail _ (.head _))))).isList
    obtain ⟨f1, f2, f3, f4, f5, f6, f7, f8, f9⟩ := M
    have k99 := X9.keep
    have k2 := X10.keep
    clear Y1 Y2 X9
    walk_at "st"
    refine wpAny_If ?_
    refine wpAny_mono (Q := fun b s' => b = false ∧ Keeps s₉ s') ?_ (fun b s' hq => ?_) (fun _ _ e => e)
    · (repeat (walk_at "st"))
      have r1 : Rd s₉.heap (.ref sy) (.list (intsD D)) := Rd.list (isList_keeps hsy k2) (RdAll.ofInts hsv)
      have r2 : Rd s₉.heap (.ref du) (.list (intsD D)) := Rd.list (isList_keeps hdu (hg9.trans k99)) (RdAll.ofInts hvu)
      have r3 : Rd s₉.heap (.ref ab) (.list (intsD (uponL (ls.map columnsOf)))) := Rd.list (isList_keeps hab k2) (RdAll.ofInts hav)
      have r4 : Rd s₉.heap (.ref uo) (.list (intsD (uponL (ls.map columnsOf)))) := Rd.list (isList_keeps huo (hg9.trans k99)) (RdAll.ofInts hvuo)
      have r5 : Rd s₉.heap (.ref go) (.list (offD (offL (ls.map columnsOf)))) := Rd.list hgo (hgv.keeps k99)
      have r6 : Rd s₉.heap (.ref of) (.list (offD (offL (ls.map columnsOf)))) := Rd.list (isList_keeps hof (hg9.trans k99)) (hvof.keeps (hg9.trans k99))
      have y1 : (PyData.list (intsD D)).canLay0 = true := lay_ints D
      have y3 : (PyData.list (intsD (uponL (ls.map columnsOf)))).canLay0 = true := lay_ints _
      have y5 : (PyData.list (offD (offL (ls.map columnsOf)))).canLay0 = true := lay_off _
      refine ne_rd r1 r2 y1 y1 (by show PyData.depthAll _ + 1 ≤ 60; rw [depth_ints]; decide) R.unit64 ?_
      rw [PySem.SeqAt.eqv_refl _ y1]
      (repeat (walk_at "st"))
      rw [if_neg (by decide)]
      (repeat (walk_at "st"))
      refine ne_rd r3 r4 y3 y3 (by show PyData.depthAll _ + 1 ≤ 60; rw [depth_ints]; decide) R.unit64 ?_
      rw [PySem.SeqAt.eqv_refl _ y3]
      (repeat (walk_at "st"))
      rw [if_neg (by decide)]
      (repeat (walk_at "st"))
      refine ne_rd r5 r6 y5 y5 (by show PyData.depthAll _ + 1 ≤ 60; have := depth_off (offL (ls.map columnsOf)); omega) R.unit64 ?_
      rw [PySem.SeqAt.eqv_refl _ y5]
      (repeat (walk_at "st"))
      rw [if_neg (by decide)]
      (repeat (walk_at "st"))
      exact ⟨rfl, Keeps.refl _⟩
    obtain ⟨rfl, k10⟩ := hq
    rw [if_neg Bool.false_ne_true]
    walk_at "st"
    try dsimp only
    refine law_C (d := d) (B.keeps (hg9.trans k9)) R (X10.keeps k10) f7 f8 hsy hsv hab hav lD ?_ hx1 hx2 fun s' g' m' hg' Z => h s' g' m' (hg9.trans (k9.trans hg')) Z
    unfold uponL
    simp
    rw [H.len]
/-! part G18 -/
theorem size_six {a b : Nat} : Builtin.Range.rangeSize (a : Int) (b : Int) 6 = (((b - a + 5) / 6 : Nat) : Int) := by
  unfold Builtin.Range.rangeSize
  rw [if_pos (by decide)]
  split <;> omega
theorem iterS_r6 {prog : Program} {w : World} {A : Around} {s : Shared} {r : Addr} {a b : Nat} {t u v : Tok} (hh : A.handled = none) (hr : IsRange s.heap r (a : Int) (b : Int) 6 t u v) (ha : a < 1000) (hb : b < 1000) :
    ∃ n, n ≤ 1000 ∧ (∀ i, i < n → a + i * 6 < b) ∧ IterS prog w A (.ref r) s n (fun i v => ∃ t, v = .int ((a + i * 6 : Nat) : Int) t) [] := by
  have hb' : b ≤ 4000000 := Nat.le_trans (Nat.le_of_lt hb) (by decide)
  have hk : (b - a + 5) / 6 ≤ 1000 := by omega
  exact ⟨_, hk, fun i hi => by omega, (iterS_range hh hr (small_pos (by decide) size_six (Nat.le_trans (Nat.le_of_lt ha) (by decide)) hb' (by decide) (Nat.le_trans hk (by decide)) (by omega)) size_six).mono fun i v h => h⟩
/-- strings by their signs -/
def StrsT (ys : List Value) (ls : List (List Nat)) : Prop := ys.length = ls.length ∧ ∀ k, k < ls.length → ∃ t, ys[k]? = some (.str ⟨(ls.getD k []).toArray⟩ t)
theorem StrsT.nil : StrsT [] [] := ⟨rfl, fun k h => absurd h (Nat.not_lt_zero _)⟩
theorem StrsT.append {ys zs : List Value} {ls ms : List (List Nat)} (a : StrsT ys ls) (b : StrsT zs ms) : StrsT (ys ++ zs) (ls ++ ms) := by
  refine ⟨by rw [List.length_append, List.length_append, a.1, b.1], fun k hk => ?_⟩
  by_cases h : k < ls.length
  · obtain ⟨t, e⟩ := a.2 k h
    refine ⟨t, ?_⟩
    rw [List.getElem?_append_left (by rw [a.1]; exact h), e]
    simp [List.getD, List.getElem?_append_left h]
  · rw [List.length_append] at hk
    obtain ⟨t, e⟩ := b.2 (k - ls.length) (by omega)
    refine ⟨t, ?_⟩
    rw [List.getElem?_append_right (by rw [a.1]; omega), a.1, e]
    simp [List.getD, List.getElem?_append_right (Nat.le_of_not_lt h)]
theorem StrsT.one (l : List Nat) (t : Tok) : StrsT [.str ⟨l.toArray⟩ t] [l] := ⟨rfl, fun k hk => by
  have : k = 0 := by simpa using hk
  subst this; exact ⟨t, rfl⟩⟩
theorem take_map_snoc {α β : Type} {l : List α} {f : α → β} {i : Nat} {x : α} (h : l[i]? = some x) : (l.take (i + 1)).map f = (l.take i).map f ++ [f x] := by rw [take_snoc h, List.map_append]; rfl
noncomputable def leadsOf (ds : List Int) : List (List Nat) := [] :: ds.map leadCodes
theorem leads_of {ds : List Int} (h : ds.length = 6) : Leads (leadsOf ds) where
  len := by unfold leadsOf; simp [h]
  all := fun l hl => by
    rcases List.mem_cons.mp hl with rfl | hl
    · exact nil_all
    · obtain ⟨v, _, rfl⟩ := List.mem_map.mp hl
      exact more_all lead_more
  first := fun q h1 h2 => by
    cases q with
    | zero => exact absurd h1 (Nat.lt_irrefl _)
    | succ k =>
      have hk : k < ds.length := by omega
      show lesserB (columnsOf []) (colOf ((leadsOf ds).map columnsOf) (k + 1)) = true
      have e : colOf ((leadsOf ds).map columnsOf) (k + 1) = columnsOf (leadCodes (ds.getD k 0)) := by
        unfold colOf leadsOf
        simp [List.getD, List.getElem?_eq_getElem hk]
      rw [e]
      exact first_less lead_more
noncomputable def dueAt (up ds : List Int) (r : Nat) : Int := if up.contains (r : Int) then 255 + ((up.count (r : Int) : Nat) : Int) else ds.getD (r - 1) 0 % 256
theorem count_small {cs : List (List Int)} (h : cs.length = 7) (r : Nat) : (uponL cs).count (r : Int) ≤ 6 := by
  unfold uponL
  rw [List.count_cons_of_ne (by omega)]
  exact Nat.le_trans List.count_le_length (by simp; omega)
theorem due_get (up ds : List Int) {r : Nat} (h : r < 7) : ((List.range 7).map (dueAt up ds)).getD r 0 = dueAt up ds r := by
  simp [List.getD, h]
theorem due_like (up ds : List Int) : dueLike ((List.range 7).map (dueAt up ds)) up := by
  intro r hr
  rw [due_get up ds hr]
  unfold dueAt dueC
  by_cases h : up.contains (r : Int) = true
  · rw [if_pos h, if_pos h]; exact .inl rfl
  · rw [if_neg h, if_neg h]
    exact .inr ⟨Int.lt_of_lt_of_le (Int.emod_lt_of_pos _ (by decide)) (by decide), by decide⟩
theorem due_nat {cs : List (List Int)} (h : cs.length = 7) (ds : List Int) (q : Nat) (hq : q < 7) : ∃ n : Nat, ((List.range 7).map (dueAt (uponL cs) ds)).getD q 0 = n ∧ n < 262 := by
  rw [due_get _ ds hq]
  unfold dueAt
  split
  · exact ⟨255 + (uponL cs).count (q : Int), by omega, by have := count_small h q; omega⟩
  · have h0 := Int.emod_nonneg (ds.getD (q - 1) 0) (b := 256) (by decide)
    have h1 := Int.emod_lt_of_pos (ds.getD (q - 1) 0) (b := 256) (by decide)
    exact ⟨(ds.getD (q - 1) 0 % 256).toNat, by omega, by omega⟩
theorem item_lT {prog : Program} {w : World} {A : Around} {E : Value → Shared → Prop} {s : Shared} {value slice : Expr} {l : Addr} {vs : List Value} {k : Int} {u : Tok} {v : Value} {Q : Value → Shared → Prop} (hl : s.heap.IsList l vs.toArray) (h0 : 0 ≤ k) (hhi : k < 2 ^ 63) (hx : vs[k.toNat]? = some v) (h : Q v s)
    (hs : subscripted slice false (.ref l) (.int k u) = operate [.ref l, .int k u] (getItem (.ref l) (.int k u))) : wpAny (model prog w) A (subscriptTail value slice (.ref l) (.int k u)) Q E s :=
  tail_any hl.typeIs slot_list_getitem.lookup (wpAny_getItem_list hl h0 hhi (by simpa using hx) h) hs
theorem RowsAt.snoc {h : Heap} {ys : List Value} {cs : List (List Int)} {l : Addr} {vs : List Value} {c : List Int} (a : RowsAt h ys cs) (e : ys.length = cs.length) (hl : h.IsList l vs.toArray) (hi : IntsAre vs c) : RowsAt h (ys ++ [.ref l]) (cs ++ [c]) := by
  intro i d hd
  by_cases hlt : i < cs.length
  · rw [List.getElem?_append_left hlt] at hd
    obtain ⟨l1, v1, a1, b1, c1⟩ := a i d hd
    exact ⟨l1, v1, by rw [List.getElem?_append_left (by omega)]; exact a1, b1, c1⟩
  · rw [List.getElem?_append_right (Nat.le_of_not_lt hlt)] at hd
    have h0 : i - cs.length = 0 := by
      rcases Nat.eq_zero_or_pos (i - cs.length) with z | z
      · exact z
      · rw [List.getElem?_eq_none (by show 1 ≤ _; omega)] at hd; cases hd
    rw [h0] at hd
    cases hd
    exact ⟨l, vs, by rw [List.getElem?_append_right (by omega), e, h0]; rfl, hl, hi⟩
/-! part G19 -/
theorem sum_nonneg : ∀ xs : List Int, (∀ z ∈ xs, 0 ≤ z) → 0 ≤ xs.sum
  | [], _ => Int.le_refl _
  | x :: xs, h => by
    rw [List.sum_cons]
    have := sum_nonneg xs fun z hz => h z (.tail _ hz)
    have := h x (.head _)
    omega
set_option maxHeartbeats 4000000 in
theorem law_spec {prog : Program} {w : World} {A : Around} {E : Value → Shared → Prop} {s : Shared} {l : Addr} {vs : List Value} {ns : List Int} {Q : Value → Shared → Prop} {d : Nat}
    (B : Base w s.heap) (R : Room A (d + 4)) (hl : s.heap.IsList l vs.toArray) (hi : IntsAre vs ns) (hn : ns.length ≤ 63) (h : ∀ s', Keeps s s' → Q (.bool true) s') :
    wpAny (model prog w) A (call (.ref 179) [.ref l]) Q E s := by
  refine enterF fnLaw [("script", .ref l)] B R ?hcd ?hbind ?hclo ?hkinds ?hcells ?hco ?hgen ?hk ?_
  ((case hcd => rfl); (case hbind => rfl); (case hclo => rfl); (case hkinds => rfl); (case hcells => rfl); (case hco => rfl); (case hgen => rfl); (case hk => rfl))
  intro L A' s₁ R' B₁ X
  rw [bdLaw.2]; dsimp only [bdLaw]
  have hvl := hi.length
  -- marks
  walk_at "st"
  walk_at "st"
  refine' comp_mk (F := fun i ys _ => ∃ ms, IntsAre ys ms ∧ ms.length = i ∧ ∀ z ∈ ms, (0 : Int) ≤ z) ?_ ?hmono ?hclos ?hkind ?hnames ?hcells ?hx ?hs
  ((case hclos => with_unfolding_all rfl); (case hkind => rfl); (case hnames => rfl); (case hcells => rfl); (case hs => intro _; rfl))
  (case hx => exact .inl rfl)
  case hmono => exact fun _ _ _ _ _ h => h
  refine slice_list_k ?_ (fun _ _ => rfl)
  (repeat (walk_at "st"))
  refine ⟨l, vs, ns, _, _, rfl, isList_keeps hl X.keep, hi, sz_of (by omega), .none, .int _ _, fun D2 vs2 ns2 s₂ k₂ hn2 hp2 hi2 hl2 => ?_⟩
  obtain ⟨g2, hg2, hin2, X2⟩ := X.grow (Keeps.trans (keeps_tok _ _) k₂)
  have hp2g := isList_new hin2 hn2 hp2.isList
  refine ⟨_, _, _, _, _, _, _, X2, iterAt_list R'.hh hp2.isList, sz_arr (by omega), ⟨[], .nil, rfl, fun z hz => nomatch hz⟩, ?_, ?_⟩
  · intro C i s₃' g' gF m' own' zs v s₃ E' hi3 hgF hgs hx3 hC hF hP Y
    obtain ⟨ms, hms, hml, hm0⟩ := hF
    obtain ⟨n, t, rfl, hnn⟩ := IntsAre.at hi2 i v (by simpa using hP)
    refine wpAny_tests_nil ⟨Keeps.refl _, ?_⟩
    rw [if_pos rfl]
    (repeat (walk_at "st"))
    refine pow_int_small (by decide) (by decide) (by decide) ?_
    refine mod_int' (by decide) ?_
    refine ⟨by walk_at "kp", fun g'' _ _ => ⟨_, IntsAre.snoc hms _ _, by simp [hml], ?_⟩⟩
    intro z hz
    rcases List.mem_append.mp hz with hz | hz
    · exact hm0 z hz
    · rw [List.mem_singleton.mp hz]
      have e : ((10 : Int) ^ (6 : Int).toNat) = 1000000 := by decide
      rw [e, Int.fmod_eq_emod_of_nonneg _ (by decide)]
      exact Int.emod_nonneg _ (by decide)
  · intro Dm vm g3 s₃ hg3 X3 k₃ hDm hpm hFm
    obtain ⟨ms, hms, hml, hm0⟩ := hFm
    (first | (refine' put_l ?xz50 ?kz50 ?_ ?hlz50 ?hkz50 ?hocz50; (case xz50 => assumption); (case hlz50 => rfl); (case hocz50 => rfl); (case hkz50 => rfl); (case kz50 => walk_at "kp")) | (refine' put_c ?xz50 ?kz50 ?_ ?hlz50 ?hkz50 ?hocz50 ?hez50; (case xz50 => assumption); (case hlz50 => rfl); (case hocz50 => rfl); (case hez50 => rfl); (case hkz50 => rfl); (case kz50 => walk_at "kp")))
    intro s₄ X4
    try dsimp only
    have lms : ms.length ≤ 63 := by simp at hml; omega
    have B4 := B.keeps (hg2.trans (hg3.trans X4.keep))
    have cM := X4.cap (n := "marks") (by walk_at "mv") rfl rfl
    have lvm := hms.length
    -- draws
    walk_at "st"
    walk_at "st"
    refine' comp_mk (F := fun i ys _ => ∃ ds, IntsAre ys ds ∧ ds.length = i ∧ ∀ z ∈ ds, (0 : Int) ≤ z) ?_ ?hmono2 ?hclos ?hkind ?hnames ?hcells ?hx ?hs
    ((case hclos => with_unfolding_all rfl); (case hkind => rfl); (case hnames => rfl); (case hcells => rfl); (case hs => intro _; rfl))
    (case hx => exact .inl rfl)
    case hmono2 => exact fun _ _ _ _ _ h => h
    (repeat (walk_at "st"))
    refine range1 fun r5 s₅ k₅ hr5 => ?_
    have X5 := X4.keeps (Keeps.trans (keeps_tok _ _) k₅)
    refine ⟨_, _, _, _, _, _, _, X5, iterAt_r0 (n := 6) R'.hh hr5 rfl (by decide), by rw [sizeLine_eq]; decide, ⟨[], .nil, rfl, fun z hz => nomatch hz⟩, ?_, ?_⟩
    · intro C i s₃' g' gF m' own' zs v s₆ E' hi3 hgF hgs hx6 hC hF hP Y
      obtain ⟨ds, hds, hdl, hd0⟩ := hF
      obtain ⟨ti, rfl⟩ := hP
      have cM6 := cM.keeps ((Keeps.ext k₅).trans hx6)
      have B6 := B4.keeps ((Keeps.ext k₅).trans hx6)
      refine wpAny_tests_nil ⟨Keeps.refl _, ?_⟩
      rw [if_pos rfl]
      refine hideQ fun Q1 hQ1 => ?_
      walk_at "st"
      walk_at "st"
      refine list_disp ?_
      (repeat (walk_at "st"))
      refine ⟨sz_of (show 6 ≤ 1000 by decide), fun bl s₇ k₇ hn7 hp7 => ?_⟩
      have Y7 := Y.keeps (Keeps.trans (keeps_tok _ _) k₇)
      have B7 := B6.keeps (Keeps.ext k₇)
      have cM7 := cM6.keeps (Keeps.ext k₇)
      (repeat (walk_at "st"))
      obtain ⟨bv, bt, hb0, hbv⟩ : ∃ (bv : Int) (bt : Tok), 0 ≤ bv ∧ ([Value.int 5 s₆.toks, .int 27 (s₆.toks + 1), .int 32 (s₆.toks + 1 + 1), .int 17 (s₆.toks + 1 + 1 + 1), .int 18 (s₆.toks + 1 + 1 + 1 + 1), .int 4 (s₆.toks + 1 + 1 + 1 + 1 + 1)] : List Value)[((i : Int)).toNat]? = some (.int bv bt) := by
        rw [Int.toNat_natCast]
        have : i = 0 ∨ i = 1 ∨ i = 2 ∨ i = 3 ∨ i = 4 ∨ i = 5 := lt6 hi3
        rcases this with rfl | rfl | rfl | rfl | rfl | rfl <;> exact ⟨_, _, by decide, rfl⟩
      refine item_lT hp7.isList (by omega) (by omega) hbv ?_ rfl
      (repeat (walk_at "st"))
      refine' comp_mk (F := fun _ ys _ => ∃ xs, IntsAre ys xs ∧ ∀ z ∈ xs, (0 : Int) ≤ z) ?_ ?hmono3 ?hclos ?hkind ?hnames ?hcells ?hx ?hs
      ((case hclos => with_unfolding_all rfl); (case hkind => rfl); (case hnames => rfl); (case hcells => rfl); (case hs => intro _; rfl))
      (case hx => exact .inl rfl)
      case hmono3 => exact fun _ _ _ _ _ h => h
      (repeat (walk_at "st"))
      have hlm7 : s₇.heap.IsList Dm vm.toArray := isList_keeps hpm.isList (X4.keep.trans ((Keeps.ext k₅).trans (hx6.trans (Keeps.ext k₇))))
      refine len_k hlm7 (sz_of (by omega)) fun t8 s₈ k₈ e₈ => ?_
      have Y8 := Y7.keeps (Keeps.trans (keeps_tok _ _) k₈)
      (repeat (walk_at "st"))
      refine range3 (by decide) (PyProof.noPylong_small (by decide)) fun r9 s₉ k₉ hr9 => ?_
      have Y9 := Y8.keeps (Keeps.trans (keeps_tok _ _) k₉)
      obtain ⟨n9, hn9, hb9, it9⟩ := iterS_r6 (prog := prog) (w := w) R'.hh hr9 (by omega) (by omega)
      refine ⟨_, _, _, _, _, _, _, Y9, ⟨_, it9⟩, sz_of (by omega), ⟨[], .nil, fun z hz => nomatch hz⟩, ?_, ?_⟩
      · intro C2 j s₄' g2' gF2 m2 own2 zs2 v2 s₁₀ E2 hj hgF2 hgs2 hx10 hC2 hF2 hP2 Z
        obtain ⟨xs, hxs, hx0⟩ := hF2
        obtain ⟨tj, rfl⟩ := hP2
        have k710 : Ext s₇.heap s₁₀.heap := (Keeps.ext k₈).trans ((Keeps.ext k₉).trans hx10)
        have cM10 := cM7.keeps k710
        have hjb := hb9 j hj
        generalize i + j * 6 = q at *
        have hq63 : q < ms.length := lvm ▸ hjb
        obtain ⟨tq, eq⟩ := IntsAre.get' hms (get_lk (d := 0) hq63)
        refine wpAny_tests_nil ⟨Keeps.refl _, ?_⟩
        rw [if_pos rfl]
        (repeat (walk_at "st"))
        refine item_n (isList_keeps hlm7 k710) (Nat.lt_of_lt_of_le hq63 (Nat.le_trans lms (by decide))) eq ?_ rfl
        refine ⟨by walk_at "kp", fun g'' _ _ => ⟨_, IntsAre.snoc hxs _ _, fun z hz => ?_⟩⟩
        rcases List.mem_append.mp hz with hz | hz
        · exact hx0 z hz
        · rw [List.mem_singleton.mp hz]
          exact hm0 _ (List.mem_of_getElem? (get_lk (d := 0) hq63))
      · intro D10 v10 g10 s₁₀ hg10 X10 k10 hD10 hp10 hF10
        obtain ⟨xs, hxs, hx0⟩ := hF10
        (repeat (walk_at "st"))
        refine sum_k R'.hh (isList_keeps hp10.isList X10.keep) hxs fun t11 s₁₁ k₁₁ => ?_
        (repeat (walk_at "st"))
        refine hQ1 _ _ ?_
        refine ⟨?_, fun g'' _ _ => ⟨_, IntsAre.snoc hds _ _, by simp [hdl], ?_⟩⟩
        · exact Keeps.trans (Keeps.trans (keeps_tok _ _) k₇) (Keeps.trans (Keeps.trans (keeps_tok _ _) k₈) (Keeps.trans (Keeps.trans (keeps_tok _ _) k₉) (Keeps.trans k10 (Keeps.trans k₁₁ (keeps_tok _ _)))))
        · intro z hz
          rcases List.mem_append.mp hz with hz | hz
          · exact hd0 z hz
          · rw [List.mem_singleton.mp hz]
            have : 0 ≤ xs.sum := sum_nonneg xs hx0
            omega
    · intro Dd vd g5 s₆ hg5 X6 k6 hDd hpd hFd
      obtain ⟨ds, hds, hdl, hd0⟩ := hFd
      (first | (refine' put_l ?xz51 ?kz51 ?_ ?hlz51 ?hkz51 ?hocz51; (case xz51 => assumption); (case hlz51 => rfl); (case hocz51 => rfl); (case hkz51 => rfl); (case kz51 => walk_at "kp")) | (refine' put_c ?xz51 ?kz51 ?_ ?hlz51 ?hkz51 ?hocz51 ?hez51; (case xz51 => assumption); (case hlz51 => rfl); (case hocz51 => rfl); (case hez51 => rfl); (case hkz51 => rfl); (case kz51 => walk_at "kp")))
      intro s₇ X7
      try dsimp only
      have B7 := B.keeps (hg2.trans (hg3.trans (hg5.trans X7.keep)))
      have lvd := hds.length
      have hdg : ∀ h', Ext g5 h' → h'.IsList Dd vd.toArray := fun h' k => isList_keeps hpd.isList k
      -- leads
      walk_at "st"
      walk_at "st"
      walk_at "st"
      refine list_disp ?_
      (repeat (walk_at "st"))
      refine ⟨sz_of (show 1 ≤ 1000 by decide), fun l8 s₈ k₈ hn8 hp8 => ?_⟩
      obtain ⟨g8, hg8, hin8, X8⟩ := X7.grow (Keeps.trans (keeps_tok _ _) k₈)
      have hp8g := isList_new hin8 hn8 hp8.isList
      refine' comp_mk (F := fun i ys _ => StrsT ys ((ds.take i).map leadCodes)) ?_ ?hmono4 ?hclos ?hkind ?hnames ?hcells ?hx ?hs
      ((case hclos => with_unfolding_all rfl); (case hkind => rfl); (case hnames => rfl); (case hcells => rfl); (case hs => intro _; rfl))
      (case hx => exact .inl rfl)
      case hmono4 => exact fun _ _ _ _ _ h => h
      have B8 := B7.keeps (Keeps.ext k₈)
      (repeat (walk_at "st"))
      refine ⟨_, _, _, _, _, _, _, X8, iterAt_list R'.hh (hdg _ (hg8.trans X8.keep)), sz_arr (by omega), StrsT.nil, ?_, ?_⟩
      · intro C i s₃' g' gF m' own' zs v s₉ E' hi3 hgF hgs hx9 hC hF hP Y
        obtain ⟨n, t, rfl, hnn⟩ := IntsAre.at hds i v (by simpa using hP)
        have B9 := B8.keeps hx9
        refine wpAny_tests_nil ⟨Keeps.refl _, ?_⟩
        rw [if_pos rfl]
        (repeat (walk_at "st"))
        refine call_own fnLead B9 ?_ rfl
        (repeat (walk_at "st"))
        refine ⟨B9, ?_⟩
        refine lead_spec B9 R' (hd0 n (List.mem_of_getElem? hnn)) fun s₁₀ t10 k₁₀ => ?_
        refine ⟨k₁₀, fun g'' _ _ => ?_⟩
        show StrsT _ ((ds.take (i + 1)).map leadCodes)
        rw [take_map_snoc hnn]
        exact StrsT.append hF (StrsT.one _ _)
      · intro Dl vl0 g9 s₉ hg9 X9 k9 hDl hpl hFl
        have hFl' : StrsT vl0 (ds.map leadCodes) := by
          have := hFl
          rw [List.take_of_length_le (by simp; omega)] at this
          exact this
        have lvl0 := hFl'.1
        rw [List.length_map] at lvl0
        refine add_k (isList_keeps hp8g (hg9.trans X9.keep)) (isList_keeps hpl.isList X9.keep) (by rw [sizeLine_eq]; show 1 + _ ≤ _; omega) fun la s₁₀ k₁₀ hn10 hp10 => ?_
        obtain ⟨g10, hg10, hin10, X10⟩ := X9.grow k₁₀
        have hla := isList_new hin10 hn10 hp10.isList
        have hst : StrsT ([Value.str (Str.ofString "") s₇.toks] ++ vl0) (leadsOf ds) := StrsT.append (StrsT.one [] s₇.toks) hFl'
        generalize hvl' : ([Value.str (Str.ofString "") s₇.toks] ++ vl0) = vl at *
        have H := leads_of hdl
        have lvl : vl.length = 7 := by rw [hst.1, H.len]
        (first | (refine' put_l ?xz52 ?kz52 ?_ ?hlz52 ?hkz52 ?hocz52; (case xz52 => assumption); (case hlz52 => rfl); (case hocz52 => rfl); (case hkz52 => rfl); (case kz52 => walk_at "kp")) | (refine' put_c ?xz52 ?kz52 ?_ ?hlz52 ?hkz52 ?hocz52 ?hez52; (case xz52 => assumption); (case hlz52 => rfl); (case hocz52 => rfl); (case hez52 => rfl); (case hkz52 => rfl); (case kz52 => walk_at "kp")))
        intro s₁₁ X11
        try dsimp only
        have k011 : Ext s.heap g10 := hg2.trans (hg3.trans (hg5.trans (hg8.trans (hg9.trans hg10))))
        have B11 := B.keeps (k011.trans X11.keep)
        generalize hls : leadsOf ds = ls at *
        have hcl : (ls.map columnsOf).length = 7 := by rw [List.length_map, H.len]
        -- upon, off
        walk_at "st"
        refine Assign_Tuple ?_
        (repeat (walk_at "st"))
        refine call_own fnOutline B11 ?_ rfl
        walk_at "st"
        refine' comp_mk (F := fun i ys hh => ys.length = i ∧ RowsAt hh ys ((ls.map columnsOf).take i)) ?_ ?hmono5 ?hclos ?hkind ?hnames ?hcells ?hx ?hs
        ((case hclos => with_unfolding_all rfl); (case hkind => rfl); (case hnames => rfl); (case hcells => rfl); (case hs => intro _; rfl))
        (case hx => exact .inl rfl)
        case hmono5 => exact fun _ _ _ _ k h => ⟨h.1, h.2.keeps k⟩
        (repeat (walk_at "st"))
        refine ⟨_, _, _, _, _, _, _, X11, iterAt_list R'.hh (isList_keeps hla X11.keep), sz_arr (by omega), ⟨rfl, fun i c e => by simp at e⟩, ?_, ?_⟩
        · intro C i s₃' g' gF m' own' zs v s₁₂ E' hi3 hgF hgs hx12 hC hF hP Y
          have hi7 : i < 7 := by simp at hi3; omega
          obtain ⟨t, et⟩ := hst.2 i (by rw [H.len]; exact hi7)
          have ev : v = .str ⟨(ls.getD i []).toArray⟩ t := by
            have hP' : vl[i]? = some v := by simpa using hP
            rw [et] at hP'; exact (Option.some.inj hP').symm
          subst ev
          obtain ⟨hl5, hlz⟩ := lead_ok (H.at hi7)
          have B12 := B11.keeps hx12
          refine wpAny_tests_nil ⟨Keeps.refl _, ?_⟩
          rw [if_pos rfl]
          (repeat (walk_at "st"))
          refine call_own fnColumns B12 ?_ rfl
          (repeat (walk_at "st"))
          refine ⟨B12, ?_⟩
          refine columns_spec B12 R' (fun z hz => by rcases hlz z hz with rfl | rfl <;> decide) (by omega) fun l13 v13 s₁₃ k₁₃ hn13 hp13 hi13 => ?_
          refine ⟨k₁₃, fun g'' hg'' hin => ⟨by simp [hF.1], ?_⟩⟩
          have hsome : (ls.map columnsOf)[i]? = some (columnsOf (ls.getD i [])) := by
            rw [List.getElem?_map, get_lk (d := []) (by rw [H.len]; exact hi7)]; rfl
          rw [take_snoc hsome]
          exact RowsAt.snoc (hF.2.keeps hg'') (by rw [hF.1, List.length_take]; omega) (isList_new hin hn13 hp13.isList) hi13
        · intro Dc rows g12 s₁₂ hg12 X12 k12 hDc hpc hFc
          obtain ⟨hrl, hrows⟩ := hFc
          rw [show vl.toArray.size = 7 by simpa using lvl] at hrl hrows
          rw [List.take_of_length_le (by omega)] at hrows
          have B12 := B.keeps (k011.trans (hg12.trans X12.keep))
          (repeat (walk_at "st"))
          refine ⟨B12, ?_⟩
          refine outline_spec (cs := ls.map columnsOf) B12 R' ⟨⟨rows, isList_keeps hpc.isList X12.keep, by omega, hrows.keeps X12.keep⟩⟩ (fun c hc => ?_) (by omega) (fun q h1 h2 => H.first q h1 (by omega)) fun D13 uo of vuo vof s₁₃ k₁₃ hin => ?_
          · obtain ⟨a, _, rfl⟩ := List.mem_map.mp hc
            exact columnsOf_len a
          obtain ⟨g13, hg13, hin13, X13⟩ := X12.grow k₁₃
          obtain ⟨hD13, huo, hvuo, hof, hvof⟩ := hin g13 hin13
          refine pair_cl R'.hh X13 (Keeps.refl _) (isTuple_keeps hD13 X13.keep) (fun s₁₄ X14 => ?_) rfl rfl rfl rfl rfl rfl
          try dsimp only
          have k013 : Ext s.heap g13 := k011.trans (hg12.trans hg13)
          have B14 := B.keeps (k013.trans X14.keep)
          have hc0 : (uponL (ls.map columnsOf)).contains 0 = true := (ershov_ok hcl (fun q h1 h2 => H.first q h1 (by omega)) (due_like _ ds)).1
          have cD := X14.cap (n := "draws") (by walk_at "mv") rfl rfl
          have cU := X14.cap (n := "upon") (by walk_at "mv") rfl rfl
          have kd13 : Ext g5 g13 := hg8.trans (hg9.trans (hg10.trans (hg12.trans hg13)))
          have hdd := hdg g13 kd13
          -- due
          walk_at "st"
          refine' comp_mk_assign (F := fun i ys _ => IntsAre ys ((List.range i).map (dueAt (uponL (ls.map columnsOf)) ds))) ?_ ?hmono6 ?hsw ?hclos ?hkind ?hnames ?hcells ?hx ?hke ?hy ?hs
          ((case hclos => with_unfolding_all rfl); (case hkind => rfl); (case hnames => rfl); (case hcells => rfl); (case hs => intro _; rfl))
          (case hx => exact .inl rfl)
          case hmono6 => exact fun _ _ _ _ _ h => h
          case hke => rfl
          case hy => rfl
          case hsw => with_unfolding_all rfl
          (repeat (walk_at "st"))
          refine range1 fun r15 s₁₅ k₁₅ hr15 => ?_
          have X15 := X14.keeps (Keeps.trans (keeps_tok _ _) k₁₅)
          refine ⟨_, _, _, _, _, _, _, X15, iterAt_r0 (n := 7) R'.hh hr15 rfl (by decide), by rw [sizeLine_eq]; decide, .nil, ?_, ?_, ?_⟩
          · intro C i s₃' g' gF m' own' zs v s₁₆ E' hi3 hgF hgs hx16 hC hF hP Y
            obtain ⟨ti, rfl⟩ := hP
            have k1416 : Ext s₁₄.heap s₁₆.heap := (Keeps.ext k₁₅).trans hx16
            have cD6 := cD.keeps k1416
            have cU6 := cU.keeps k1416
            have B16 := B14.keeps k1416
            have huo16 : s₁₆.heap.PlainList uo vuo.toArray := by obtain ⟨n, e⟩ := huo; exact ⟨n, k1416 _ _ (X14.keep _ _ e)⟩
            refine wpAny_tests_nil ⟨Keeps.refl _, ?_⟩
            rw [if_pos rfl]
            have fin : ∀ y t s', Keeps s₁₆ s' → y = dueAt (uponL (ls.map columnsOf)) ds i → Keeps s₁₆ s' ∧ ∀ g'', Ext gF g'' → NewIn s₁₆.heap s'.heap g'' → IntsAre (zs ++ [.int y t]) ((List.range (i + 1)).map (dueAt (uponL (ls.map columnsOf)) ds)) := by
              intro y t s' k e
              refine ⟨k, fun g'' _ _ => ?_⟩
              rw [e, List.range_succ, List.map_append]
              exact IntsAre.snoc hF _ _
            (repeat (walk_at "st"))
            refine in_ints_k huo16.isList hvuo R'.unit64 ?_
            (repeat (walk_at "st"))
            by_cases hcon : (uponL (ls.map columnsOf)).contains (i : Int) = true
            · rw [if_pos hcon]
              (repeat (walk_at "st"))
              refine MethodCall_ ?_
              (repeat (walk_at "st"))
              refine getm_count huo16 ?_
              try dsimp only
              refine callWith_method1 ?_
              (repeat (walk_at "st"))
              refine count_list_ints huo16.isList hvuo ?_
              (repeat (walk_at "st"))
              exact fin _ _ _ (by walk_at "kp") (by unfold dueAt; rw [if_pos hcon])
            · rw [if_neg hcon]
              have hi0 : i ≠ 0 := fun q => hcon (by rw [q]; exact hc0)
              have hi1 : i - 1 < ds.length := by omega
              obtain ⟨tdd, etd⟩ := IntsAre.get' hds (get_lk (d := 0) hi1)
              (repeat (walk_at "st"))
              rw [show (i : Int) - 1 = ((i - 1 : Nat) : Int) by omega]
              refine item_n (isList_keeps hdd (X14.keep.trans k1416)) (Nat.lt_of_le_of_lt (Nat.sub_le i 1) (Nat.lt_trans hi3 (by decide))) etd ?_ rfl
              (repeat (walk_at "st"))
              refine mod_int' (by decide) ?_
              exact fin _ _ _ (by walk_at "kp") (by unfold dueAt; rw [if_neg hcon]; exact Int.fmod_eq_emod_of_nonneg _ (by decide))
          · exact hoc_of rfl
          · intro du vu g16 s₁₆ hg16 hndu X16 hpu hFu
            try dsimp only
            have hvl : ∀ q, q < 7 → ∃ t, vl[q]? = some (.str ⟨(ls.getD q []).toArray⟩ t) := fun q hq => hst.2 q (by rw [H.len]; exact hq)
            refine law_B (d := d) (ds := ds) (D := (List.range 7).map (dueAt (uponL (ls.map columnsOf)) ds)) (B.keeps (k013.trans hg16)) R' H X16 ?n1 ?n2 ?n3 ?n4 ?n5 (isList_keeps hla (hg12.trans (hg13.trans hg16))) lvl hvl (isList_keeps hdd hg16) hds hpu.isList hFu (by rw [List.length_map, List.length_range])
              (due_nat hcl ds) (isList_keeps huo.isList hg16) hvuo (isList_keeps hof hg16) (hvof.keeps hg16) (due_like _ ds) fun s' g' m' hg' Z => h s' (Z.done (k013.trans (hg16.trans hg')))
            case n1 => walk_at "mv"
            case n2 => walk_at "mv"
            case n3 => walk_at "mv"
            case n4 => walk_at "mv"
            case n5 => walk_at "mv"
end Mine
open PySem PySem.W PySem.Calls PyProof.Rows
set_option Elab.async false
theorem Mine.good {c : ClaimW} {cl : Str → Option Addr} {mean : ExcName → Option Value} {args : List WData} {s₁ s' : Shared} (hg : s₁.gens = #[]) (k : Keeps s₁ s') (hn : ∀ cls, c.raises args cls = false) (hp : c.post args (.bool true) args = true) : GoodWG c cl mean args s₁ (.ok (.ret (.bool true))) s' := by
  obtain ⟨h', tk, rfl, hk⟩ := k
  exact GoodW.toG ⟨.inl ⟨.bool true, .bool true, [], rfl, hn, .bool true, hp, unshared_nil⟩, hk, rfl, hg⟩
theorem Mine.roomA : Mine.Room callerA 14 := ⟨rfl, by decide, by decide⟩
set_option maxRecDepth 100000 in
set_option maxHeartbeats 8000000 in
theorem PySem.Challenge.cw_tp0015_01_holds : PySem.Challenge.rw_tp0015_01.Holds := by
  w_on
  refine PySem.W.holds_law (by decide +kernel) fun said => ?_
  o_head (kHook Mine.frag Mine.fragAs (fun _ => by kernel_rfl))
  case hw => w_witness2
  intro w s₀ s₁ mg mb G Y fa o pm cd doc dV kV ho hdat hcd hD hmg hg args vals as hpre hlay hrd hwl hlo
  have KX := kIn_of Y
  refine Ground.open G ?_
  intro T TB D TE TW
  have B := Mine.Base.of KX T
  have hfa : fa = 179 := by
    have e1 : mg "law" = some (.ref 179) := mg_of KX T.g rfl
    have e2 : mg "law" = some (.ref fa) := hmg
    rw [e1] at e2
    exact (Value.ref.inj (Option.some.inj e2)).symm
  clear hdat Y ho G D hcd hD hmg TB TE TW T
  subst hfa
  wrow_args hpre hlay hrd hwl hlo
  rename IntsAre _ _ => hI
  rename Heap.IsList _ _ _ => hL
  rename ¬ _ => h63
  refine Mine.law_spec (d := 10) B Mine.roomA hL hI (by omega) fun s' k => Mine.good hg k ?_ ?_
  · intro cls
    rfl
  · wrow_post
