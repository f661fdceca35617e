import PyProof.Rows.All
import Wide.All
import OpenK.AllK
import Wide.FinOn
import PySem.Challenge.RW_pd0081_02
set_option Elab.async false

section T_T2
open PySem PySem.W PyProof.Rows PySem.Calls PySem.Spec
set_option maxRecDepth 100000
namespace Mine
/-- the program, by its places -/
abbrev hd.pg : Program := PySem.Challenge.pw_pd0081_02
def hd.view_39 : Program := { hd.pg with main := { hd.pg.main with body := [0, 2, 3, 4, 5, 6, 8, 10, 12, 13, 15, 17, 19, 20, 21, 22, 23, 24, 26, 27, 28, 29].filterMap fun i => hd.pg.main.body[i]? } }
def hd.lawD : DefRec := match hd.pg.main.body.drop 29 with
  | .FunctionDef n ps b _ _ _ sc _ _ p :: _ => ⟨n, ps, b, sc, p⟩
  | _ => ⟨Str.ofString "", default, [], default, default⟩
def hd.fnOf (i : Nat) (pm : Str) (tok code : Nat) : Obj := match hd.pg.main.body.drop i with
  | .FunctionDef n ps b _ _ _ sc _ _ _ :: _ => { cls := .type "function", data := .func (docDef n ps b sc (.str pm tok) (.ref code) .none) }
  | _ => default
def hd.topOf (P : Params) : Obj := { cls := .type "dict", data := .dict ((([
("__name__", 165, Value.str (Str.ofString "law_pd0081_02") 403),
  ("__doc__", 166, Value.none),
  ("__package__", 167, Value.none),
  ("__loader__", 168, Value.builtin "__main__.__loader__#opaque"),
  ("__spec__", 169, Value.none),
  ("__annotations__", 170, Value.ref 6),
  ("__builtins__", 171, Value.ref 4),
  ("__file__", 173, Value.str (Str.ofString "/claim/cut.py") 172),
  ("__cached__", 174, Value.none),
  ("_wall", 193, Value.ref 21),
  ("_MAX_STRING_SIZE", 197, Value.int 40 196),
  ("_MOVE_COST", 199, Value.int 2 198),
  ("_CASE_COST", 201, Value.int 1 200),
  ("_substitution_cost", 209, Value.ref 28),
  ("_levenshtein_distance", 229, Value.ref 35),
  ("_plain_name", 240, Value.ref 42),
  ("ABCMeta", 266, Value.ref 59),
  ("_ABCLike", 309, Value.ref 92),
  ("_abc_plain_meta", 316, Value.ref 101),
  ("fspath", 328, Value.ref 108),
  ("_check_arg_types", 341, Value.ref 115),
  ("_get_sep", 350, Value.ref 122),
  ("join", 361, Value.ref 129),
  ("split", 372, Value.ref 136),
  ("splitroot", 381, Value.ref 143),
  ("normpath", 396, Value.ref 150),
  ("commonpath", 402, Value.ref 155),
  ("_law_typed", 415, Value.ref 162),
  ("_law_mended", 421, Value.ref 167),
  ("_law_spelled", 428, Value.ref 174),
  ("law", 434, Value.ref 179)] : List (String × Nat × Value))).map fun x => { hash := PyData.keyHash P (Str.ofString x.1), key := .str (Str.ofString x.1) x.2.1, val := x.2.2 }).toArray 31 }
def hd.heap_39 (P : Params) : Frag := [(3, hd.topOf P),
  (27, { cls := Value.type "code", data := Data.fields #[Value.str (Str.ofString "_substitution_cost") 202, Value.str (Str.ofString "_substitution_cost") 203, Value.str (Str.ofString "/claim/cut.py") 204, Value.int 8 0, Value.int 2 0, Value.int 0 0, Value.int 0 0, Value.int 3 0, Value.ref 22, Value.bool Bool.true, Value.int 181 0, Value.ref 23, Value.none, Value.ref 24, Value.ref 25, Value.ref 26, Value.int 207 0, Value.int 8 0, Value.str (Str.ofString "/claim/cut.py") 208] }),
  (28, hd.fnOf 5 "cpy313.traceback" 194 27),
  (34, { cls := Value.type "code", data := Data.fields #[Value.str (Str.ofString "_levenshtein_distance") 210, Value.str (Str.ofString "_levenshtein_distance") 211, Value.str (Str.ofString "/claim/cut.py") 212, Value.int 14 0, Value.int 3 0, Value.int 0 0, Value.int 0 0, Value.int 3 0, Value.ref 29, Value.bool Bool.true, Value.int 181 0, Value.ref 30, Value.none, Value.ref 31, Value.ref 32, Value.ref 33, Value.int 227 0, Value.int 14 0, Value.str (Str.ofString "/claim/cut.py") 228] }),
  (35, hd.fnOf 6 "cpy313.traceback" 194 34),
  (107, { cls := Value.type "code", data := Data.fields #[Value.str (Str.ofString "fspath") 319, Value.str (Str.ofString "fspath") 320, Value.str (Str.ofString "/claim/cut.py") 321, Value.int 83 0, Value.int 1 0, Value.int 0 0, Value.int 0 0, Value.int 3 0, Value.ref 102, Value.bool Bool.true, Value.int 181 0, Value.ref 103, Value.none, Value.ref 104, Value.ref 105, Value.ref 106, Value.int 326 0, Value.int 83 0, Value.str (Str.ofString "/claim/cut.py") 327] }),
  (108, hd.fnOf 15 "os" 317 107),
  (121, { cls := Value.type "code", data := Data.fields #[Value.str (Str.ofString "_get_sep") 344, Value.str (Str.ofString "_get_sep") 345, Value.str (Str.ofString "/claim/cut.py") 346, Value.int 112 0, Value.int 1 0, Value.int 0 0, Value.int 0 0, Value.int 3 0, Value.ref 116, Value.bool Bool.true, Value.int 181 0, Value.ref 117, Value.none, Value.ref 118, Value.ref 119, Value.ref 120, Value.int 348 0, Value.int 112 0, Value.str (Str.ofString "/claim/cut.py") 349] }),
  (122, hd.fnOf 19 "cpy313.posixpath" 342 121),
  (128, { cls := Value.type "code", data := Data.fields #[Value.str (Str.ofString "join") 351, Value.str (Str.ofString "join") 352, Value.str (Str.ofString "/claim/cut.py") 353, Value.int 117 0, Value.int 1 0, Value.int 0 0, Value.int 0 0, Value.int 7 0, Value.ref 123, Value.bool Bool.true, Value.int 181 0, Value.ref 124, Value.none, Value.ref 125, Value.ref 126, Value.ref 127, Value.int 359 0, Value.int 117 0, Value.str (Str.ofString "/claim/cut.py") 360] }),
  (129, hd.fnOf 20 "cpy313.posixpath" 342 128),
  (135, { cls := Value.type "code", data := Data.fields #[Value.str (Str.ofString "split") 362, Value.str (Str.ofString "split") 363, Value.str (Str.ofString "/claim/cut.py") 364, Value.int 134 0, Value.int 1 0, Value.int 0 0, Value.int 0 0, Value.int 3 0, Value.ref 130, Value.bool Bool.true, Value.int 181 0, Value.ref 131, Value.none, Value.ref 132, Value.ref 133, Value.ref 134, Value.int 370 0, Value.int 134 0, Value.str (Str.ofString "/claim/cut.py") 371] }),
  (136, hd.fnOf 21 "cpy313.posixpath" 342 135),
  (142, { cls := Value.type "code", data := Data.fields #[Value.str (Str.ofString "splitroot") 373, Value.str (Str.ofString "splitroot") 374, Value.str (Str.ofString "/claim/cut.py") 375, Value.int 142 0, Value.int 1 0, Value.int 0 0, Value.int 0 0, Value.int 3 0, Value.ref 137, Value.bool Bool.true, Value.int 181 0, Value.ref 138, Value.none, Value.ref 139, Value.ref 140, Value.ref 141, Value.int 379 0, Value.int 142 0, Value.str (Str.ofString "/claim/cut.py") 380] }),
  (143, hd.fnOf 22 "cpy313.posixpath" 342 142),
  (149, { cls := Value.type "code", data := Data.fields #[Value.str (Str.ofString "normpath") 382, Value.str (Str.ofString "normpath") 383, Value.str (Str.ofString "/claim/cut.py") 384, Value.int 156 0, Value.int 1 0, Value.int 0 0, Value.int 0 0, Value.int 3 0, Value.ref 144, Value.bool Bool.true, Value.int 181 0, Value.ref 145, Value.none, Value.ref 146, Value.ref 147, Value.ref 148, Value.int 394 0, Value.int 156 0, Value.str (Str.ofString "/claim/cut.py") 395] }),
  (150, hd.fnOf 23 "cpy313.posixpath" 342 149),
  (154, { cls := Value.type "code", data := Data.fields #[Value.str (Str.ofString "commonpath") 397, Value.str (Str.ofString "commonpath") 398, Value.str (Str.ofString "/claim/cut.py") 399, Value.int 181 0, Value.int 1 0, Value.int 0 0, Value.int 0 0, Value.int 3 0, Value.ref 151, Value.bool Bool.true, Value.int 181 0, Value.ref 152, Value.none, Value.none, Value.none, Value.ref 153, Value.int 400 0, Value.int 181 0, Value.str (Str.ofString "/claim/cut.py") 401] }),
  (155, hd.fnOf 24 "cpy313.posixpath" 342 154),
  (161, { cls := Value.type "code", data := Data.fields #[Value.str (Str.ofString "_law_typed") 405, Value.str (Str.ofString "_law_typed") 406, Value.str (Str.ofString "/claim/cut.py") 407, Value.int 211 0, Value.int 3 0, Value.int 0 0, Value.int 0 0, Value.int 3 0, Value.ref 156, Value.bool Bool.true, Value.int 181 0, Value.ref 157, Value.none, Value.ref 158, Value.ref 159, Value.ref 160, Value.int 413 0, Value.int 211 0, Value.str (Str.ofString "/claim/cut.py") 414] }),
  (162, hd.fnOf 26 "law_pd0081_02" 403 161),
  (166, { cls := Value.type "code", data := Data.fields #[Value.str (Str.ofString "_law_mended") 416, Value.str (Str.ofString "_law_mended") 417, Value.str (Str.ofString "/claim/cut.py") 418, Value.int 215 0, Value.int 1 0, Value.int 0 0, Value.int 0 0, Value.int 3 0, Value.ref 163, Value.bool Bool.true, Value.int 181 0, Value.ref 164, Value.none, Value.none, Value.none, Value.ref 165, Value.int 419 0, Value.int 215 0, Value.str (Str.ofString "/claim/cut.py") 420] }),
  (167, hd.fnOf 27 "law_pd0081_02" 403 166),
  (173, { cls := Value.type "code", data := Data.fields #[Value.str (Str.ofString "_law_spelled") 422, Value.str (Str.ofString "_law_spelled") 423, Value.str (Str.ofString "/claim/cut.py") 424, Value.int 219 0, Value.int 1 0, Value.int 0 0, Value.int 0 0, Value.int 3 0, Value.ref 168, Value.bool Bool.true, Value.int 181 0, Value.ref 169, Value.none, Value.ref 170, Value.ref 171, Value.ref 172, Value.int 426 0, Value.int 219 0, Value.str (Str.ofString "/claim/cut.py") 427] }),
  (174, hd.fnOf 28 "law_pd0081_02" 403 173),
  (178, { cls := Value.type "code", data := Data.fields #[Value.str (Str.ofString "law") 429, Value.str (Str.ofString "law") 430, Value.str (Str.ofString "/claim/cut.py") 431, Value.int 221 0, Value.int 1 0, Value.int 0 0, Value.int 0 0, Value.int 3 0, Value.ref 175, Value.bool Bool.true, Value.int 181 0, Value.ref 176, Value.none, Value.none, Value.none, Value.ref 177, Value.int 432 0, Value.int 221 0, Value.str (Str.ofString "/claim/cut.py") 433] }),
  (179, hd.fnOf 29 "law_pd0081_02" 403 178)]
def hd.adds : List Addr := [3, 27, 28, 34, 35, 107, 108, 121, 122, 128, 129, 135, 136, 142, 143, 149, 150, 154, 155, 161, 162, 166, 167, 173, 174, 178, 179]
abbrev hd.hook : Hook := kHook hd.heap_39 hd.adds (fun _ => by kernel_rfl)
theorem hd.said0 : looksOpen PySem.Challenge.rw_pd0081_02.row.toRowW.prog = true := by
  unfold looksOpen
  repeat' (with_reducible refine look_both ?_ ?_)
  all_goals decide +kernel
theorem hd.said1 : PySem.Challenge.rw_pd0081_02.row.wellSaid = true := by
  unfold OpenRow.wellSaid OpenRow.partSaid
  repeat' (with_reducible refine look_both ?_ ?_)
  (exact hd.said0)
  all_goals decide +kernel
theorem hd.said : PySem.Challenge.rw_pd0081_02.wellSaid = true := by
  unfold OpenLaw.wellSaid
  repeat' (with_reducible refine look_both ?_ ?_)
  (exact hd.said1)
  all_goals decide +kernel
theorem hd.left (w : World) : (openEnds treeTable PySem.Challenge.rw_pd0081_02.row.toRowW.prog w 3000).map (fun s => (openSeen hd.view_39 [] (importedModules PySem.Challenge.rw_pd0081_02.row.toRowW.prog.main.body) (fun s => xlAt hd.view_39 [] s && recOk (RowW.records PySem.Challenge.rw_pd0081_02.row.toRowW) s) true s, Hook.obs hd.hook s)) = some (openGood hd.view_39 [], Hook.val hd.hook w) := by kernel_rfl
theorem hd (h : WalkO hd.view_39 [] (XL hd.view_39 []) (Hook.says hd.hook) PySem.Challenge.rw_pd0081_02.row.toRowW hd.lawD [] (fun f vs => PySem.call f vs)) : PySem.Challenge.rw_pd0081_02.Holds := by
  refine holds_law hd.said fun said => ?_
  refine holds_open (r := PySem.Challenge.rw_pd0081_02.row) (q := hd.view_39) (loose := []) (Xt := fun s => xlAt hd.view_39 [] s && recOk (RowW.records PySem.Challenge.rw_pd0081_02.row.toRowW) s) (XP := XL hd.view_39 []) (Yf := Hook.obs hd.hook) (Ya := Hook.val hd.hook) (YP := Hook.says hd.hook) (N := 3000) (d := hd.lawD) (kwd := []) hd.left (Hook.of hd.hook) (Hook.keeps hd.hook) (fun s e => xl_of s (Bool.and_eq_true_iff.mp e).1) XL.keeps (by kernel_rfl) (by kernel_rfl) (by kernel_rfl) (fun s e => recFacts_of (Bool.and_eq_true_iff.mp e).2) (by rfl) said (by decide +kernel) ⟨rfl, rfl, rfl, rfl, rfl, by decide +kernel⟩ ?hw h
  case hw => w_witness2
end Mine

end T_T2

section T_DA
open PySem PySem.W PyProof.Rows PySem.Calls PySem.Spec
set_option linter.unusedVariables false
namespace Mine

/-! ## plain values and how a heap bears them -/
inductive AV where
  | none
  | bool (b : Bool)
  | int (i : Int)
  | str (x : Str)
  | raw (v : Value)
  | list (xs : List AV)
  | tup (xs : List AV)

abbrev Ext (h h' : Heap) : Prop := ∀ b o, h.get? b = some o → h'.get? b = some o

mutual
/-- the value bears the plain value; no object within is one of ex -/
inductive Val (h : Heap) (ex : Addr → Prop) : Value → AV → Prop
  | none : Val h ex Value.none AV.none
  | bool (b : Bool) : Val h ex (Value.bool b) (AV.bool b)
  | int (i : Int) (t : Tok) : Val h ex (Value.int i t) (AV.int i)
  | str (x : Str) (t : Tok) : Val h ex (Value.str x t) (AV.str x)
  | raw (v : Value) : Val h ex v (AV.raw v)
  | list {a : Addr} {vs : List Value} {xs : List AV} : ¬ ex a → h.IsList a vs.toArray → Vals h ex vs xs → Val h ex (Value.ref a) (AV.list xs)
  | tup {a : Addr} {vs : List Value} {xs : List AV} : ¬ ex a → h.IsTuple a vs.toArray → Vals h ex vs xs → Val h ex (Value.ref a) (AV.tup xs)
inductive Vals (h : Heap) (ex : Addr → Prop) : List Value → List AV → Prop
  | nil : Vals h ex [] []
  | cons {v : Value} {vs : List Value} {a : AV} {as : List AV} : Val h ex v a → Vals h ex vs as → Vals h ex (v :: vs) (a :: as)
end

theorem IsList.goes {h h' : Heap} {a : Addr} {items : Array Value} (x : h.IsList a items) (k : ∀ o, h.get? a = some o → h'.get? a = some o) : h'.IsList a items :=
  let ⟨o, ho, r⟩ := x; ⟨o, k o ho, r⟩
theorem IsTuple.goes {h h' : Heap} {a : Addr} {items : Array Value} (x : h.IsTuple a items) (k : ∀ o, h.get? a = some o → h'.get? a = some o) : h'.IsTuple a items :=
  let ⟨o, ho, r⟩ := x; ⟨o, k o ho, r⟩

/-- lists and tuples off ex stay -/
def SeqKept (ex : Addr → Prop) (h h' : Heap) : Prop := ∀ b o items n, ¬ ex b → h.get? b = some o → o.data = .seq items n → h'.get? b = some o
mutual
theorem Val.moves {h h' : Heap} {ex ex' : Addr → Prop} (k : SeqKept ex h h') (ke : ∀ b o, ¬ ex b → h.get? b = some o → ¬ ex' b) : ∀ {v : Value} {a : AV}, Val h ex v a → Val h' ex' v a
  | _, _, .none => .none
  | _, _, .bool b => .bool b
  | _, _, .int i t => .int i t
  | _, _, .str x t => .str x t
  | _, _, .raw v => .raw v
  | _, _, .list n l r => .list (let ⟨o, ho, _⟩ := l; ke _ o n ho) (let ⟨o, ho, hc, m, hd⟩ := l; ⟨o, k _ o _ m n ho hd, hc, m, hd⟩) (Vals.moves k ke r)
  | _, _, .tup n l r => .tup (let ⟨o, ho, _⟩ := l; ke _ o n ho) (let ⟨o, ho, hc, m, hd⟩ := l; ⟨o, k _ o _ m n ho hd, hc, m, hd⟩) (Vals.moves k ke r)
theorem Vals.moves {h h' : Heap} {ex ex' : Addr → Prop} (k : SeqKept ex h h') (ke : ∀ b o, ¬ ex b → h.get? b = some o → ¬ ex' b) : ∀ {vs : List Value} {as : List AV}, Vals h ex vs as → Vals h' ex' vs as
  | _, _, .nil => .nil
  | _, _, .cons x r => .cons (Val.moves k ke x) (Vals.moves k ke r)
end
theorem Ext.seq {ex : Addr → Prop} {h h' : Heap} (k : Ext h h') : SeqKept ex h h' := fun b o _ _ _ e _ => k b o e
theorem Val.up {h h' : Heap} {ex : Addr → Prop} (k : Ext h h') {v : Value} {a : AV} (x : Val h ex v a) : Val h' ex v a := x.moves (Ext.seq k) (fun _ _ n _ => n)
theorem Vals.up {h h' : Heap} {ex : Addr → Prop} (k : Ext h h') {v : List Value} {a : List AV} (x : Vals h ex v a) : Vals h' ex v a := x.moves (Ext.seq k) (fun _ _ n _ => n)
theorem Val.weak {h : Heap} {ex ex' : Addr → Prop} (k : ∀ b, ex' b → ex b) {v : Value} {a : AV} (x : Val h ex v a) : Val h ex' v a := x.moves (fun b o _ _ _ e _ => e) (fun b _ n _ q => n (k b q))
theorem Vals.weak {h : Heap} {ex ex' : Addr → Prop} (k : ∀ b, ex' b → ex b) {v : List Value} {a : List AV} (x : Vals h ex v a) : Vals h ex' v a := x.moves (fun b o _ _ _ e _ => e) (fun b _ n _ q => n (k b q))
theorem Vals.length {h : Heap} {ex : Addr → Prop} : ∀ {vs : List Value} {as : List AV}, Vals h ex vs as → vs.length = as.length
  | _, _, .nil => rfl
  | _, _, .cons _ r => by rw [List.length_cons, List.length_cons, Vals.length r]
theorem Vals.get {h : Heap} {ex : Addr → Prop} : ∀ {vs : List Value} {as : List AV}, Vals h ex vs as → ∀ {i : Nat} {a : AV}, as[i]? = some a → ∃ v, vs[i]? = some v ∧ Val h ex v a
  | _, _, .nil, i, a, e => by simp at e
  | _, _, .cons x r, 0, a, e => by simp at e; subst e; exact ⟨_, rfl, x⟩
  | _, _, .cons x r, i + 1, a, e => by simp at e; obtain ⟨v, h1, h2⟩ := Vals.get r e; exact ⟨v, by simpa using h1, h2⟩
theorem Vals.get' {h : Heap} {ex : Addr → Prop} : ∀ {vs : List Value} {as : List AV}, Vals h ex vs as → ∀ {i : Nat} {v : Value}, vs[i]? = some v → ∃ a, as[i]? = some a ∧ Val h ex v a
  | _, _, .nil, i, a, e => by simp at e
  | _, _, .cons x r, 0, a, e => by simp at e; subst e; exact ⟨_, rfl, x⟩
  | _, _, .cons x r, i + 1, a, e => by simp at e; obtain ⟨v, h1, h2⟩ := Vals.get' r e; exact ⟨v, by simpa using h1, h2⟩
theorem Vals.append {h : Heap} {ex : Addr → Prop} : ∀ {vs : List Value} {as : List AV}, Vals h ex vs as → ∀ {us : List Value} {bs : List AV}, Vals h ex us bs → Vals h ex (vs ++ us) (as ++ bs)
  | _, _, .nil, _, _, y => y
  | _, _, .cons x r, _, _, y => .cons x (Vals.append r y)
theorem Vals.take {h : Heap} {ex : Addr → Prop} : ∀ {vs : List Value} {as : List AV}, Vals h ex vs as → ∀ n : Nat, Vals h ex (vs.take n) (as.take n)
  | _, _, .nil, n => by simpa using Vals.nil
  | _, _, .cons x r, 0 => .nil
  | _, _, .cons x r, n + 1 => .cons x (Vals.take r n)
theorem Vals.set {h : Heap} {ex : Addr → Prop} : ∀ {vs : List Value} {as : List AV}, Vals h ex vs as → ∀ (n : Nat) {v : Value} {a : AV}, Val h ex v a → Vals h ex (vs.set n v) (as.set n a)
  | _, _, .nil, n, _, _, _ => by simpa using Vals.nil
  | _, _, .cons x r, 0, _, _, y => .cons y r
  | _, _, .cons x r, n + 1, _, _, y => .cons x (Vals.set r n y)
/-! ## room, the base, a frame's names -/
def Room (n : Nat) (A : Around) : Prop := A.handled = none ∧ A.depth + n < recursionLimit ∧ A.units + 20 * n < cLine
theorem Room.less {n m : Nat} {A : Around} (r : Room n A) (h : m ≤ n) : Room m A := ⟨r.1, by have := r.2.1; omega, by have := r.2.2; omega⟩
theorem Room.deeper {n : Nat} {A : Around} (r : Room (n + 1) A) (env : Env) : Room n (A.deeper env) :=
  ⟨r.1, by have := r.2.1; show A.depth + 1 + n < _; omega, by have := r.2.2; show A.units + 3 + 20 * n < _; omega⟩
theorem Room.depth {n : Nat} {A : Around} (r : Room n A) : A.depth < recursionLimit := by have := r.2.1; omega
structure Base (K : Frag) (h : Heap) : Prop where
  k : K.In h
  g : ∃ mg, h.Ns mainGlobals mg
  b : ∃ mb, h.Ns builtinsNs mb ∧ ∀ x : Str, x ≠ "__name__" → mb x = bootBuiltins x
  lim : h.NoLimit
theorem Base.up {K : Frag} {h h' : Heap} (x : Base K h) (k : Ext h h') : Base K h' :=
  ⟨x.k.keeps k, let ⟨m, q⟩ := x.g; ⟨m, q.keeps k⟩, let ⟨m, q, r⟩ := x.b; ⟨m, q.keeps k, r⟩, x.lim.keeps k⟩

inductive Get (env : Env) (h : Heap) (x : Str) (v : Value) : Prop
  | loc (m : Str → Option Value) (hk : env.kindOf x = some .local) (hn : h.Ns env.locals m) (hv : m x = some v) : Get env h x v
  | cel (c : Addr) (hk : env.kindOf x = some .cell) (hc : env.cells.lookup x = some c) (hv : h.IsCell c (some v)) : Get env h x v
theorem Get.up {env : Env} {h h' : Heap} {x : Str} {v : Value} (g : Get env h x v) (k : Ext h h') : Get env h' x v := by
  cases g with
  | loc m a b c => exact .loc m a (b.keeps k) c
  | cel c a b d => exact .cel c a b (d.keeps k)

inductive Slot where
  | free
  | val (a : AV)
  | own (l : Addr) (p : Bool) (xs : List AV)

/-- a list; if p, one without a dict of its own -/
def ListAt (h : Heap) (l : Addr) (p : Bool) (us : List Value) : Prop := ∃ o, h.get? l = some o ∧ o.cls = .type "list" ∧ (∃ n, o.data = .seq us.toArray n) ∧ (p = true → o.dict = none ∧ o.slots = #[])
theorem ListAt.goes {h h' : Heap} {a : Addr} {p : Bool} {us : List Value} (x : ListAt h a p us) (k : ∀ o, h.get? a = some o → h'.get? a = some o) : ListAt h' a p us :=
  let ⟨o, ho, r⟩ := x; ⟨o, k o ho, r⟩
theorem ListAt.isList {h : Heap} {a : Addr} {p : Bool} {us : List Value} (x : ListAt h a p us) : h.IsList a us.toArray := let ⟨o, ho, hc, hd, _⟩ := x; ⟨o, ho, hc, hd⟩
theorem ListAt.of {h : Heap} {a : Addr} {us : List Value} (x : h.IsList a us.toArray) : ListAt h a false us := let ⟨o, ho, hc, hd⟩ := x; ⟨o, ho, hc, hd, fun e => by cases e⟩
theorem ListAt.any {h : Heap} {a : Addr} {p : Bool} {us : List Value} (x : ListAt h a true us) : ListAt h a p us := let ⟨o, ho, hc, hd, hn⟩ := x; ⟨o, ho, hc, hd, fun _ => hn rfl⟩
theorem ListAt.plain {h : Heap} {a : Addr} {us : List Value} (x : ListAt h a true us) : h.PlainList a us.toArray := by
  obtain ⟨⟨c, d, dt, sl⟩, ho, hc, ⟨n, hd⟩, hn⟩ := x
  obtain ⟨h1, h2⟩ := hn rfl
  simp only at hc hd h1 h2
  subst hc hd h1 h2
  exact ⟨n, ho⟩
theorem ListAt.ofPlain {h : Heap} {a : Addr} {p : Bool} {us : List Value} (x : h.PlainList a us.toArray) : ListAt h a p us := let ⟨n, ho⟩ := x; ⟨_, ho, rfl, ⟨n, rfl⟩, fun _ => ⟨rfl, rfl⟩⟩

def SlotIs (env : Env) (ex : Addr → Prop) (h : Heap) (x : Str) : Slot → Prop
  | .free => True
  | .val a => ∃ v, Get env h x v ∧ Val h ex v a
  | .own l p xs => Get env h x (.ref l) ∧ ex l ∧ ∃ us : List Value, ListAt h l p us ∧ Vals h ex us xs
theorem SlotIs.up {env : Env} {ex : Addr → Prop} {h h' : Heap} {x : Str} {sl : Slot} (g : SlotIs env ex h x sl) (k : Ext h h') : SlotIs env ex h' x sl := by
  cases sl with
  | free => trivial
  | val a => obtain ⟨v, a, b⟩ := g; exact ⟨v, a.up k, b.up k⟩
  | own l p xs => obtain ⟨a, b, us, c, d⟩ := g; exact ⟨a.up k, b, us, c.goes fun o e => k _ o e, d.up k⟩

abbrev Vars := List (Str × Slot)
def Holds (env : Env) (ex : Addr → Prop) (vs : Vars) (h : Heap) : Prop := ∀ p ∈ vs, SlotIs env ex h p.1 p.2
theorem Holds.up {env : Env} {ex : Addr → Prop} {vs : Vars} {h h' : Heap} (g : Holds env ex vs h) (k : Ext h h') : Holds env ex vs h' := fun p hp => (g p hp).up k

/-- the objects of ex stand -/
def There (ex : Addr → Prop) (h : Heap) : Prop := ∀ b, ex b → ∃ o, h.get? b = some o
theorem There.up {ex : Addr → Prop} {h h' : Heap} (q : There ex h) (k : Ext h h') : There ex h' := fun b hb => let ⟨o, e⟩ := q b hb; ⟨o, k _ _ e⟩
theorem no_next (h : Heap) : h.get? h.objs.size = none := by
  cases e : h.get? h.objs.size with
  | none => rfl
  | some o => exact absurd (Heap.lt_size e) (Nat.lt_irrefl _)
theorem There.next {ex : Addr → Prop} {h : Heap} (q : There ex h) : ¬ ex h.objs.size := fun hb => by
  obtain ⟨o, e⟩ := q _ hb
  rw [no_next] at e; cases e
/-- what an expression may lean on -/
structure StE (K : Frag) (env : Env) (ex : Addr → Prop) (vs : Vars) (h : Heap) : Prop where
  fn : env.scope.kind = .function
  gl : env.globals = mainGlobals
  bl : env.builtins = builtinsNs
  base : Base K h
  there : There ex h
  holds : Holds env ex vs h

/-- the heap has only grown -/
structure Grown (s s' : Shared) : Prop where
  same : ∃ h' tk, s' = { s with heap := h', toks := tk }
  ext : Ext s.heap s'.heap
theorem Grown.refl (s : Shared) : Grown s s := ⟨⟨s.heap, s.toks, rfl⟩, fun _ _ e => e⟩
theorem Grown.tok (s : Shared) (t : Nat) : Grown s { s with toks := t } := ⟨⟨s.heap, t, rfl⟩, fun _ _ e => e⟩
theorem Grown.trans {s₁ s₂ s₃ : Shared} (a : Grown s₁ s₂) (b : Grown s₂ s₃) : Grown s₁ s₃ := by
  obtain ⟨⟨h, t, rfl⟩, e1⟩ := a
  obtain ⟨⟨h', t', rfl⟩, e2⟩ := b
  exact ⟨⟨h', t', rfl⟩, fun b o e => e2 b o (e1 b o e)⟩
theorem StE.up {K : Frag} {env : Env} {ex : Addr → Prop} {vs : Vars} {s s' : Shared} (S : StE K env ex vs s.heap) (k : Grown s s') : StE K env ex vs s'.heap :=
  ⟨S.fn, S.gl, S.bl, S.base.up k.ext, S.there.up k.ext, S.holds.up k.ext⟩
theorem Grown.push (s : Shared) (o : Obj) (t : Nat) : Grown s { s with heap := s.heap.push o, toks := t } :=
  ⟨⟨_, _, rfl⟩, fun b o' e => Heap.get?_push_of_some _ e⟩
theorem Grown.of {s : Shared} {h' : Heap} {tk : Nat} (k : Ext s.heap h') : Grown s { s with heap := h', toks := tk } := ⟨⟨_, _, rfl⟩, k⟩

/-! ## the judgement for expressions -/
section
variable (prog : Program) (w : World) (K : Frag)
/-- from any such state the tree ends with a value that bears a, the heap only grown -/
def Ev (n : Nat) (env : Env) (ex : Addr → Prop) (vs : Vars) (e : Expr) (a : AV) : Prop :=
  ∀ (A : Around), Room n A → ∀ (s : Shared) (Q : Value → Shared → Prop) (E : Value → Shared → Prop), StE K env ex vs s.heap →
    (∀ v s', Grown s s' → Val s'.heap ex v a → Q v s') → wpAny (model prog w) A (eval e env) Q E s
/-- .. with a list, it may be an own one, whose items bear xs -/
def EvL (n : Nat) (env : Env) (ex : Addr → Prop) (vs : Vars) (e : Expr) (xs : List AV) : Prop :=
  ∀ (A : Around), Room n A → ∀ (s : Shared) (Q : Value → Shared → Prop) (E : Value → Shared → Prop), StE K env ex vs s.heap →
    (∀ l us s', Grown s s' → s'.heap.IsList l us.toArray → Vals s'.heap ex us xs → Q (.ref l) s') → wpAny (model prog w) A (eval e env) Q E s
/-- a test -/
def Te (n : Nat) (env : Env) (ex : Addr → Prop) (vs : Vars) (e : Expr) (b : Bool) : Prop :=
  ∀ (A : Around), Room n A → ∀ (s : Shared) (Q : Bool → Shared → Prop) (E : Value → Shared → Prop), StE K env ex vs s.heap →
    (∀ s', Grown s s' → Q b s') → wpAny (model prog w) A (isTrue e env (eval e env)) Q E s
end

section
variable {prog : Program} {w : World} {K : Frag} {n : Nat} {env : Env} {ex : Addr → Prop} {vs : Vars}

theorem Ev.cint {i : Int} {k : Nat} {p : Pos} : Ev prog w K n env ex vs (.Constant (.int i) k p) (.int i) :=
  fun _ _ s _ _ _ h => wpAny_Constant_int (h _ _ (Grown.tok s _) (.int _ _))
theorem Ev.cstr {x : Str} {k : Nat} {p : Pos} : Ev prog w K n env ex vs (.Constant (.str x) k p) (.str x) :=
  fun _ _ s _ _ _ h => wpAny_Constant_str (h _ _ (Grown.tok s _) (.str _ _))
theorem Ev.cbool {b : Bool} {k : Nat} {p : Pos} : Ev prog w K n env ex vs (.Constant (.bool b) k p) (.bool b) :=
  fun _ _ s _ _ _ h => wpAny_Constant_bool (h _ _ (Grown.refl s) (.bool _))
theorem Ev.cnone {k : Nat} {p : Pos} : Ev prog w K n env ex vs (.Constant .none k p) .none :=
  fun _ _ s _ _ _ h => wpAny_Constant_none (h _ _ (Grown.refl s) .none)

theorem load_name {x : Str} {v : Value} {A : Around} {s : Shared} {Q : Value → Shared → Prop} {E : Value → Shared → Prop} (S : StE K env ex vs s.heap) (g : Get env s.heap x v) (h : Q v s) : wpAny (model prog w) A (loadName env x) Q E s := by
  cases g with
  | loc m a b c => exact wpAny_loadName_local S.fn a b c h
  | cel c a b d => exact wpAny_loadName_cell S.fn a b d h
theorem Ev.name {x : Str} {p : Pos} {a : AV} (hm : (x, Slot.val a) ∈ vs) (hd : (x == ("__debug__" : Str)) = false := by decide) : Ev prog w K n env ex vs (.Name x p) a := by
  intro A _ s Q E S h
  obtain ⟨v, g, q⟩ := S.holds _ hm
  exact wpAny_Name (load_name S g (h v s (Grown.refl s) q)) hd
theorem EvL.name {x : Str} {p : Pos} {l : Addr} {pp : Bool} {xs : List AV} (hm : (x, Slot.own l pp xs) ∈ vs) (hd : (x == ("__debug__" : Str)) = false := by decide) : EvL prog w K n env ex vs (.Name x p) xs := by
  intro A _ s Q E S h
  obtain ⟨g, _, us, q, r⟩ := S.holds _ hm
  exact wpAny_Name (load_name S g (h l us s (Grown.refl s) q.isList r)) hd
theorem EvL.of {e : Expr} {xs : List AV} (h : Ev prog w K n env ex vs e (.list xs)) : EvL prog w K n env ex vs e xs := by
  intro A r s Q E S k
  refine h A r s Q E S fun v s' g q => ?_
  cases q with
  | list _ b c => exact k _ _ s' g b c
theorem Ev.global {x : Str} {p : Pos} {v : Value} (e : nsIn K mainGlobals x = some (some v)) (hx : env.kindOf x = some .globalImplicit) (hd : (x == ("__debug__" : Str)) = false := by decide) : Ev prog w K n env ex vs (.Name x p) (.raw v) := by
  intro A _ s Q E S h
  obtain ⟨mg, G⟩ := S.base.g
  exact Name_function_global S.fn hx (loadGlobal_global (S.gl ▸ G) (mg_of S.base.k G e) (h _ _ (Grown.refl s) (.raw _))) hd
theorem Ev.globalInt {x : Str} {p : Pos} {i : Int} {t : Tok} (e : nsIn K mainGlobals x = some (some (.int i t))) (hx : env.kindOf x = some .globalImplicit) (hd : (x == ("__debug__" : Str)) = false := by decide) : Ev prog w K n env ex vs (.Name x p) (.int i) := by
  intro A _ s Q E S h
  obtain ⟨mg, G⟩ := S.base.g
  exact Name_function_global S.fn hx (loadGlobal_global (S.gl ▸ G) (mg_of S.base.k G e) (h _ _ (Grown.refl s) (.int _ _))) hd
theorem Ev.builtin {x : Str} {p : Pos} {v : Value} (e : nsIn K mainGlobals x = some none) (hv : bootBuiltins x = some v) (hx : env.kindOf x = some .globalImplicit) (hn : x ≠ "__name__" := by decide) (hd : (x == ("__debug__" : Str)) = false := by decide) : Ev prog w K n env ex vs (.Name x p) (.raw v) := by
  intro A _ s Q E S h
  obtain ⟨mg, G⟩ := S.base.g
  obtain ⟨mb, B, hb⟩ := S.base.b
  exact Name_function_global S.fn hx (loadGlobal_builtin (S.gl ▸ G) (mg_none_of S.base.k G e) (S.bl ▸ B) ((hb x hn).trans hv) (h _ _ (Grown.refl s) (.raw _))) hd

/-- two values, then an operation of them -/
theorem Ev.binop {l r : Expr} {op : Operator} {p : Pos} {a b c : AV} (hl : Ev prog w K n env ex vs l a) (hr : Ev prog w K n env ex vs r b)
    (ho : ∀ (A : Around), Room n A → ∀ (s : Shared) (Q E : Value → Shared → Prop) u v, There ex s.heap → Val s.heap ex u a → Val s.heap ex v b → (∀ v s', Grown s s' → Val s'.heap ex v c → Q v s') → wpAny (model prog w) A (binaryOp op u v) Q E s) :
    Ev prog w K n env ex vs (.BinOp l op r p) c := by
  intro A R s Q E S h
  refine wpAny_BinOp (hl A R s _ _ S fun u s₁ g₁ q₁ => hr A R s₁ _ _ (S.up g₁) fun v s₂ g₂ q₂ => ?_)
  exact ho A R s₂ Q E u v ((S.up g₁).up g₂).there (q₁.up g₂.ext) q₂ fun v s' g₃ q => h v s' ((g₁.trans g₂).trans g₃) q
end
end Mine

end T_DA

section T_DB
open PySem PySem.W PyProof.Rows PySem.Calls PySem.Spec
set_option linter.unusedVariables false
namespace Mine

inductive Upd (x : Str) (sl : Slot) : Vars → Vars → Prop
  | head {old : Slot} {r : Vars} : Upd x sl ((x, old) :: r) ((x, sl) :: r)
  | tail {p : Str × Slot} {r r' : Vars} : Upd x sl r r' → Upd x sl (p :: r) (p :: r')
theorem Upd.names {x : Str} {sl : Slot} {vs vs' : Vars} (u : Upd x sl vs vs') : vs'.map (·.1) = vs.map (·.1) := by
  induction u with
  | head => rfl
  | tail _ ih => rw [List.map_cons, List.map_cons, ih]
theorem Upd.mem {x : Str} {sl : Slot} {vs vs' : Vars} (u : Upd x sl vs vs') (hn : (vs.map (·.1)).Nodup) : ∀ p ∈ vs', p = (x, sl) ∨ (p ∈ vs ∧ p.1 ≠ x) := by
  induction u with
  | head =>
    intro p hp
    rw [List.map_cons, List.nodup_cons] at hn
    rcases List.mem_cons.mp hp with e | hp
    · exact .inl e
    · exact .inr ⟨List.mem_cons_of_mem _ hp, fun e => hn.1 (List.mem_map.mpr ⟨p, hp, e⟩)⟩
  | @tail q r r' u ih =>
    intro p hp
    rw [List.map_cons, List.nodup_cons] at hn
    have hx : x ∈ r.map (·.1) := by
      clear ih hn hp
      induction u with
      | head => exact List.mem_cons_self
      | tail _ ih => exact List.mem_cons_of_mem _ ih
    rcases List.mem_cons.mp hp with e | hp
    · subst e; exact .inr ⟨List.mem_cons_self, fun e => hn.1 (e ▸ hx)⟩
    · rcases ih hn.2 p hp with e | e
      · exact .inl e
      · exact .inr ⟨List.mem_cons_of_mem _ e.1, e.2⟩
theorem Upd.has {x : Str} {sl : Slot} {vs vs' : Vars} (u : Upd x sl vs vs') : ∃ old, (x, old) ∈ vs := by
  induction u with
  | @head old r => exact ⟨old, List.mem_cons_self⟩
  | tail _ ih => obtain ⟨o, h⟩ := ih; exact ⟨o, List.mem_cons_of_mem _ h⟩

theorem Ns.inj {h : Heap} {a : Addr} {m m' : Str → Option Value} (x : h.Ns a m) (y : h.Ns a m') : m = m' := by
  obtain ⟨o, es, ep, ho, hd, _, hf⟩ := x
  obtain ⟨o', es', ep', ho', hd', _, hf'⟩ := y
  rw [ho] at ho'; cases ho'
  rw [hd] at hd'; cases hd'
  funext z; rw [← hf z, hf' z]

def Kept (env : Env) (ex : Addr → Prop) (h h' : Heap) : Prop := ∀ b o, b ≠ env.locals → (∀ x c, env.cells.lookup x = some c → b ≠ c) → ¬ ex b → h.get? b = some o → h'.get? b = some o
theorem Kept.refl {env : Env} {ex : Addr → Prop} {h : Heap} : Kept env ex h h := fun _ _ _ _ _ e => e
theorem Kept.trans {env : Env} {ex : Addr → Prop} {h₁ h₂ h₃ : Heap} (a : Kept env ex h₁ h₂) (b : Kept env ex h₂ h₃) : Kept env ex h₁ h₃ := fun c o h1 h2 h3 e => b c o h1 h2 h3 (a c o h1 h2 h3 e)
theorem Kept.of_ext {env : Env} {ex : Addr → Prop} {h h' : Heap} (k : Ext h h') : Kept env ex h h' := fun b o _ _ _ e => k b o e

structure StS (K : Frag) (env : Env) (h₀ : Heap) (ex : Addr → Prop) (vs : Vars) (h : Heap) : Prop where
  e : StE K env ex vs h
  base0 : Base K h₀
  ns : ∃ m, h.Ns env.locals m
  keep : Ext h₀ h
  newL : h₀.get? env.locals = none
  newO : ∀ x l p xs, (x, Slot.own l p xs) ∈ vs → h₀.get? l = none
  ownd : ∀ x y l p q xs ys, (x, Slot.own l p xs) ∈ vs → (y, Slot.own l q ys) ∈ vs → x = y
  cells : ∀ x c, env.cells.lookup x = some c → h₀.get? c = none ∧ ∃ v, h.IsCell c v
  celld : ∀ x y c, env.cells.lookup x = some c → env.cells.lookup y = some c → x = y
  names : (vs.map (·.1)).Nodup
  kinds : ∀ p ∈ vs, env.kindOf p.1 = some .local ∨ (env.kindOf p.1 = some .cell ∧ ∃ c, env.cells.lookup p.1 = some c)

section
variable {K : Frag} {env : Env} {h₀ : Heap} {ex : Addr → Prop} {vs vs' : Vars} {h h' : Heap}

theorem StS.up (S : StS K env h₀ ex vs h) (k : Ext h h') : StS K env h₀ ex vs h' :=
  ⟨⟨S.e.fn, S.e.gl, S.e.bl, S.e.base.up k, S.e.there.up k, S.e.holds.up k⟩, S.base0, let ⟨m, q⟩ := S.ns; ⟨m, q.keeps k⟩, fun b o e => k b o (S.keep b o e), S.newL, S.newO, S.ownd,
    fun x c e => let ⟨a, v, q⟩ := S.cells x c e; ⟨a, v, q.keeps k⟩, S.celld, S.names, S.kinds⟩

theorem StS.seqNe (S : StS K env h₀ ex vs h) {b : Addr} {o : Obj} {items : Array Value} {n : Nat} (e : h.get? b = some o) (hd : o.data = .seq items n) : b ≠ env.locals ∧ ∀ x c, env.cells.lookup x = some c → b ≠ c := by
  refine ⟨fun q => ?_, fun x c hc q => ?_⟩
  · obtain ⟨m, o', es, ep, ho, hd', _⟩ := S.ns
    rw [← q, e] at ho; cases ho
    rw [hd] at hd'; cases hd'
  · obtain ⟨_, v, o', ho, hd'⟩ := S.cells x c hc
    rw [← q, e] at ho; cases ho
    rw [hd] at hd'; cases hd'
theorem StS.seqKept (S : StS K env h₀ ex vs h) (k : Kept env ex h h') : SeqKept ex h h' := fun b o items n hb e hd =>
  let q := S.seqNe e hd; k b o q.1 q.2 hb e

theorem StS.store_local (S : StS K env h₀ ex vs h) {x : Str} {v : Value} {m : Str → Option Value} {sl : Slot} (hk : env.kindOf x = some .local) (hn : h.Ns env.locals m)
    (hn' : h'.Ns env.locals (fun y => if y = x then some v else m y)) (hs : Heap.SameBut env.locals h h') (u : Upd x sl vs vs') (hx : SlotIs env ex h' x sl) (ho : ∀ l p xs, sl = .own l p xs → h₀.get? l = none ∧ ∀ y q ys, (y, Slot.own l q ys) ∈ vs → y = x) : StS K env h₀ ex vs' h' := by
  have kk : Kept env ex h h' := fun b o hb _ _ e => (hs.2 b hb).trans e
  have hk0 : Ext h₀ h' := fun b o e => (hs.2 b (fun q => by rw [q, S.newL] at e; cases e)).trans (S.keep b o e)
  have other : ∀ p ∈ vs, p.1 ≠ x → SlotIs env ex h' p.1 p.2 := by
    intro p hp hne
    have old := S.e.holds p hp
    have gg : ∀ {v : Value}, Get env h p.1 v → Get env h' p.1 v := by
      intro v g
      cases g with
      | loc m₁ a b c => exact .loc _ a hn' (by rw [Ns.inj b hn] at c; simp only [if_neg hne, c])
      | cel c a b d =>
        refine .cel c a b (d.sameBut hs fun q => ?_)
        obtain ⟨o, ho1, hd1⟩ := d
        obtain ⟨o', es, ep, ho2, hd2, _⟩ := hn
        rw [q, ho2] at ho1; cases ho1; rw [hd1] at hd2; cases hd2
    obtain ⟨y, sl'⟩ := p
    cases sl' with
    | free => trivial
    | val a => obtain ⟨v, g, q⟩ := old; exact ⟨v, gg g, q.moves (S.seqKept kk) fun _ _ n _ => n⟩
    | own l pp xs =>
      obtain ⟨g, e, us, il, r⟩ := old
      obtain ⟨o, ho1, hc1, ⟨n1, hd1⟩, hn1⟩ := id il
      exact ⟨gg g, e, us, ⟨o, (hs.2 l (S.seqNe ho1 hd1).1).trans ho1, hc1, ⟨n1, hd1⟩, hn1⟩, r.moves (S.seqKept kk) fun _ _ n _ => n⟩
  have fin : ∀ p ∈ vs', SlotIs env ex h' p.1 p.2 := fun p hp => (u.mem S.names p hp).elim (fun e => e ▸ hx) fun e => other p e.1 e.2
  refine ⟨⟨S.e.fn, S.e.gl, S.e.bl, S.base0.up hk0, ?_, fin⟩, S.base0, ⟨_, hn'⟩, hk0, S.newL, ?_, ?_, ?_, S.celld, by rw [u.names]; exact S.names, ?_⟩
  · intro b hb
    by_cases q : b = env.locals
    · obtain ⟨o, _, _, ho1, _⟩ := hn'; exact ⟨o, q ▸ ho1⟩
    · obtain ⟨o, e⟩ := S.e.there b hb; exact ⟨o, (hs.2 b q).trans e⟩
  · intro y l p xs hp
    rcases u.mem S.names _ hp with e | e
    · cases e; exact (ho l p xs rfl).1
    · exact S.newO y l p xs e.1
  · intro y z l p q xs ys hy hz
    rcases u.mem S.names _ hy with e | e <;> rcases u.mem S.names _ hz with e' | e'
    · cases e; cases e'; rfl
    · cases e; exact ((ho l p xs rfl).2 z q ys e'.1).symm
    · cases e'; exact (ho l q ys rfl).2 y p xs e.1
    · exact S.ownd y z l p q xs ys e.1 e'.1
  · intro y c hc
    obtain ⟨a, v, q⟩ := S.cells y c hc
    refine ⟨a, v, q.sameBut hs fun e => ?_⟩
    obtain ⟨o, ho1, hd1⟩ := q
    obtain ⟨o', es, ep, ho2, hd2, _⟩ := hn
    rw [e, ho2] at ho1; cases ho1; rw [hd1] at hd2; cases hd2
  · intro p hp
    have : p.1 ∈ vs.map (·.1) := u.names ▸ List.mem_map.mpr ⟨p, hp, rfl⟩
    obtain ⟨q, hq, e⟩ := List.mem_map.mp this
    exact e ▸ S.kinds q hq

theorem StS.store_cell (S : StS K env h₀ ex vs h) {x : Str} {v : Value} {c : Addr} {sl : Slot} (hk : env.kindOf x = some .cell) (hc : env.cells.lookup x = some c)
    (hn' : h'.IsCell c (some v)) (hs : Heap.SameBut c h h') (u : Upd x sl vs vs') (hx : SlotIs env ex h' x sl) (ho : ∀ l p xs, sl = .own l p xs → h₀.get? l = none ∧ ∀ y q ys, (y, Slot.own l q ys) ∈ vs → y = x) : StS K env h₀ ex vs' h' := by
  have kk : Kept env ex h h' := fun b o _ hb _ e => (hs.2 b (hb x c hc)).trans e
  obtain ⟨hc0, vc, hcell⟩ := S.cells x c hc
  have hk0 : Ext h₀ h' := fun b o e => (hs.2 b (fun q => by rw [q, hc0] at e; cases e)).trans (S.keep b o e)
  have nsC : ∀ {m : Str → Option Value}, h.Ns env.locals m → env.locals ≠ c := by
    intro m hn q
    obtain ⟨o, ho1, hd1⟩ := hcell
    obtain ⟨o', es, ep, ho2, hd2, _⟩ := hn
    rw [← q, ho2] at ho1; cases ho1; rw [hd1] at hd2; cases hd2
  have other : ∀ p ∈ vs, p.1 ≠ x → SlotIs env ex h' p.1 p.2 := by
    intro p hp hne
    have old := S.e.holds p hp
    have gg : ∀ {v : Value}, Get env h p.1 v → Get env h' p.1 v := by
      intro v g
      cases g with
      | loc m₁ a b c' => exact .loc _ a (b.sameBut hs (nsC b)) c'
      | cel c' a b d => exact .cel c' a b (d.sameBut hs fun q => hne (S.celld _ _ c (q ▸ b) hc))
    obtain ⟨y, sl'⟩ := p
    cases sl' with
    | free => trivial
    | val a => obtain ⟨v, g, q⟩ := old; exact ⟨v, gg g, q.moves (S.seqKept kk) fun _ _ n _ => n⟩
    | own l pp xs =>
      obtain ⟨g, e, us, il, r⟩ := old
      obtain ⟨o, ho1, hc1, ⟨n1, hd1⟩, hn1⟩ := id il
      exact ⟨gg g, e, us, ⟨o, (hs.2 l ((S.seqNe ho1 hd1).2 x c hc)).trans ho1, hc1, ⟨n1, hd1⟩, hn1⟩, r.moves (S.seqKept kk) fun _ _ n _ => n⟩
  have fin : ∀ p ∈ vs', SlotIs env ex h' p.1 p.2 := fun p hp => (u.mem S.names p hp).elim (fun e => e ▸ hx) fun e => other p e.1 e.2
  refine ⟨⟨S.e.fn, S.e.gl, S.e.bl, S.base0.up hk0, ?_, fin⟩, S.base0, ?_, hk0, S.newL, ?_, ?_, ?_, S.celld, by rw [u.names]; exact S.names, ?_⟩
  · intro b hb
    by_cases q : b = c
    · obtain ⟨o, ho1, _⟩ := hn'; exact ⟨o, q ▸ ho1⟩
    · obtain ⟨o, e⟩ := S.e.there b hb; exact ⟨o, (hs.2 b q).trans e⟩
  · obtain ⟨m, q⟩ := S.ns; exact ⟨m, q.sameBut hs (nsC q)⟩
  · intro y l p xs hp
    rcases u.mem S.names _ hp with e | e
    · cases e; exact (ho l p xs rfl).1
    · exact S.newO y l p xs e.1
  · intro y z l p q xs ys hy hz
    rcases u.mem S.names _ hy with e | e <;> rcases u.mem S.names _ hz with e' | e'
    · cases e; cases e'; rfl
    · cases e; exact ((ho l p xs rfl).2 z q ys e'.1).symm
    · cases e'; exact (ho l q ys rfl).2 y p xs e.1
    · exact S.ownd y z l p q xs ys e.1 e'.1
  · intro y c' hc'
    obtain ⟨a, v, q⟩ := S.cells y c' hc'
    by_cases e : c' = c
    · subst e; exact ⟨a, _, hn'⟩
    · exact ⟨a, v, q.sameBut hs e⟩
  · intro p hp
    have : p.1 ∈ vs.map (·.1) := u.names ▸ List.mem_map.mpr ⟨p, hp, rfl⟩
    obtain ⟨q, hq, e⟩ := List.mem_map.mp this
    exact e ▸ S.kinds q hq
end

/-! ## storing a name -/
section
variable {prog : Program} {w : World} {K : Frag} {env : Env} {h₀ : Heap} {ex : Addr → Prop} {vs vs' : Vars} {A : Around} {s : Shared} {Q : Unit → Shared → Prop} {E : Value → Shared → Prop}

theorem fn_not {env : Env} (h : env.scope.kind = .function) : (env.scope.kind == .class || (env.scope.kind == .module && env.locals != env.globals)) = false := by rw [h]; rfl

/-- any slot: what the name is to hold stands at every heap that is the same but at the name's place -/
theorem store_slot {x : Str} {v : Value} {sl : Slot} (S : StS K env h₀ ex vs s.heap) (u : Upd x sl vs vs')
    (hx : ∀ h', Get env h' x v → SeqKept ex s.heap h' → (∀ l p us, ListAt s.heap l p us → ListAt h' l p us) → SlotIs env ex h' x sl)
    (ho : ∀ l p xs, sl = .own l p xs → h₀.get? l = none ∧ ∀ y q ys, (y, Slot.own l q ys) ∈ vs → y = x)
    (h : ∀ h' tk, StS K env h₀ ex vs' h' → Kept env ex s.heap h' → Q () { s with heap := h', toks := tk }) : wpAny (model prog w) A (storeName env x v) Q E s := by
  obtain ⟨old, hm⟩ := u.has
  rcases S.kinds _ hm with hk | ⟨hk, c, hc⟩
  · obtain ⟨m, hn⟩ := S.ns
    refine wpAny_storeName_local hk hn (fun h' hn' hs => ?_) (fn_not S.e.fn)
    have kk : Kept env ex s.heap h' := fun b o hb _ _ e => (hs.2 b hb).trans e
    have il : ∀ l p us, ListAt s.heap l p us → ListAt h' l p us := fun l p us q => by
      obtain ⟨o, ho1, hc1, ⟨n1, hd1⟩, hn1⟩ := q
      exact ⟨o, (hs.2 l (S.seqNe ho1 hd1).1).trans ho1, hc1, ⟨n1, hd1⟩, hn1⟩
    exact h h' _ (S.store_local hk hn hn' hs u (hx h' (.loc _ hk hn' (by simp)) (S.seqKept kk) il) ho) kk
  · obtain ⟨_, v₀, hv⟩ := S.cells x c hc
    refine wpAny_storeName_cell S.e.fn hk hc hv fun h' hn' hs => ?_
    have kk : Kept env ex s.heap h' := fun b o _ hb _ e => (hs.2 b (hb x c hc)).trans e
    have il : ∀ l p us, ListAt s.heap l p us → ListAt h' l p us := fun l p us q => by
      obtain ⟨o, ho1, hc1, ⟨n1, hd1⟩, hn1⟩ := q
      exact ⟨o, (hs.2 l ((S.seqNe ho1 hd1).2 x c hc)).trans ho1, hc1, ⟨n1, hd1⟩, hn1⟩
    exact h h' s.toks (S.store_cell hk hc hn' hs u (hx h' (.cel c hk hc hn') (S.seqKept kk) il) ho) kk

theorem store_val {x : Str} {v : Value} {a : AV} (S : StS K env h₀ ex vs s.heap) (u : Upd x (.val a) vs vs') (q : Val s.heap ex v a)
    (h : ∀ h' tk, StS K env h₀ ex vs' h' → Kept env ex s.heap h' → Q () { s with heap := h', toks := tk }) : wpAny (model prog w) A (storeName env x v) Q E s :=
  store_slot S u (fun h' g k _ => ⟨v, g, q.moves k fun _ _ n _ => n⟩) (fun _ _ _ e => by cases e) h
end
end Mine

end T_DB

section T_DC
open PySem PySem.W PyProof.Rows PySem.Calls PySem.Spec
set_option linter.unusedVariables false
namespace Mine
section
variable (prog : Program) (w : World)
def Ex (n : Nat) (env : Env) (ex : Addr → Prop) (S : Heap → Prop) (ss : List Stmt) (Q : Flow → Heap → Prop) : Prop :=
  ∀ (A : Around), Room n A → ∀ (s : Shared) (E : Value → Shared → Prop), S s.heap →
    wpAny (model prog w) A (execs ss env) (fun f s' => (∃ h' tk, s' = { s with heap := h', toks := tk }) ∧ Kept env ex s.heap s'.heap ∧ Q f s'.heap) E s
end

section
variable {prog : Program} {w : World} {K : Frag} {n : Nat} {env : Env} {h₀ : Heap} {ex : Addr → Prop} {vs vs' : Vars} {S S' : Heap → Prop} {Q : Flow → Heap → Prop} {rest : List Stmt}

/-- from one state on to another: the rest of the walk -/
theorem ex_then {A : Around} (R : Room n A) {s : Shared} {E : Value → Shared → Prop} {ss : List Stmt} {h' : Heap} {tk : Nat} (hr : Ex prog w n env ex S ss Q) (hS : S h') (hk : Kept env ex s.heap h') :
    wpAny (model prog w) A (execs ss env) (fun f s' => (∃ h' tk, s' = { s with heap := h', toks := tk }) ∧ Kept env ex s.heap s'.heap ∧ Q f s'.heap) E { s with heap := h', toks := tk } :=
  wpAny_mono (hr A R { s with heap := h', toks := tk } E hS) (fun f s' ⟨⟨h'', tk', e⟩, k, q⟩ => ⟨⟨h'', tk', by rw [e]⟩, hk.trans k, q⟩) fun _ _ x => x

theorem Ex.nil (h : ∀ h, S h → Q .next h) : Ex prog w n env ex S [] Q := fun A R s E hS => wpAny_execs_nil ⟨⟨_, _, rfl⟩, Kept.refl, h _ hS⟩
theorem Ex.pre {ss : List Stmt} (hr : Ex prog w n env ex S ss Q) (h : ∀ h, S' h → S h) : Ex prog w n env ex S' ss Q := fun A R s E hS => hr A R s E (h _ hS)
theorem Ex.ghost {ss : List Stmt} {σ : Type} {T : σ → Heap → Prop} (hr : ∀ c, Ex prog w n env ex (T c) ss Q) : Ex prog w n env ex (fun h => ∃ c, T c h) ss Q := fun A R s E ⟨c, hS⟩ => hr c A R s E hS
theorem Ex.fact {ss : List Stmt} {P : Prop} (hr : P → Ex prog w n env ex S ss Q) : Ex prog w n env ex (fun h => P ∧ S h) ss Q := fun A R s E ⟨c, hS⟩ => hr c A R s E hS

theorem execs_append (a b : List Stmt) : execs (a ++ b) env = (do match ← execs a env with | .next => execs b env | f => pure f) := by
  induction a with
  | nil => rfl
  | cons st r ih =>
    rw [List.cons_append, execs_cons, execs_cons, bind_assoc]
    congr 1
    funext f
    cases f with
    | next => exact ih
    | _ => rfl

theorem wp_if {M : Model} {A : Around} {E : Value → Shared → Prop} {s : Shared} {test : Expr} {body orelse : List Stmt} {pos : Pos} {QQ : Flow → Shared → Prop}
    (h : wpAny M A (isTrue test env (eval test env)) (fun b s₂ => wpAny M A (execs ((if b then body else orelse) ++ rest) env) QQ E s₂) E s) :
    wpAny M A (execs (.If test body orelse pos :: rest) env) QQ E s := fun Γ p hΓ => by
  simp only [execs_cons, exec_If, Sem.wp_bind', Sem.wp_cmd_standAt]
  refine Sem.wp_mono M Γ _ (fun b p₂ s₂ h₂ => ?_) (fun _ _ _ h' => h') _ _ (h Γ _ hΓ)
  have h₃ := h₂ Γ p₂ hΓ
  rw [execs_append, Sem.wp_bind'] at h₃
  cases b <;> exact h₃

abbrev StS' (K : Frag) (env : Env) (h₀ : Heap) (ex : Addr → Prop) (vs : Vars) : Heap → Prop := fun h => StS K env h₀ ex vs h

theorem StS.grow {s s' : Shared} (S : StS K env h₀ ex vs s.heap) (g : Grown s s') : StS K env h₀ ex vs s'.heap := S.up g.ext

theorem Ex.ite {test : Expr} {body orelse : List Stmt} {pos : Pos} {b : Bool} (ht : Te prog w K n env ex vs test b)
    (hr : Ex prog w n env ex (StS K env h₀ ex vs) ((if b then body else orelse) ++ rest) Q) : Ex prog w n env ex (StS K env h₀ ex vs) (.If test body orelse pos :: rest) Q := by
  intro A R s E hS
  refine wp_if (ht A R s _ _ hS.e fun s₁ g => ?_)
  obtain ⟨⟨h', tk, rfl⟩, k⟩ := g
  exact ex_then R hr (hS.up k) (Kept.of_ext k)
theorem Ex.ite_tt {test : Expr} {body orelse : List Stmt} {pos : Pos} (ht : Te prog w K n env ex vs test true)
    (hr : Ex prog w n env ex (StS K env h₀ ex vs) (body ++ rest) Q) : Ex prog w n env ex (StS K env h₀ ex vs) (.If test body orelse pos :: rest) Q := Ex.ite ht hr
theorem Ex.ite_ff {test : Expr} {body orelse : List Stmt} {pos : Pos} (ht : Te prog w K n env ex vs test false)
    (hr : Ex prog w n env ex (StS K env h₀ ex vs) (orelse ++ rest) Q) : Ex prog w n env ex (StS K env h₀ ex vs) (.If test body orelse pos :: rest) Q := Ex.ite ht hr

theorem Ex.assign {x : Str} {p' pos : Pos} {e : Expr} {a : AV} (he : Ev prog w K n env ex vs e a) (u : Upd x (.val a) vs vs') (hr : Ex prog w n env ex (StS K env h₀ ex vs') rest Q)
    (hs : swapsWith e (some (.Name x p')) pos.line env = pure false := by rfl) : Ex prog w n env ex (StS K env h₀ ex vs) (.Assign [.Name x p'] e pos :: rest) Q := by
  intro A R s E hS
  refine wpAny_execs_cons (wpAny_Assign_Name (he A R s _ _ hS.e fun v s₁ g q => store_val (hS.grow g) u q fun h' tk S' k => ?_) hs)
  obtain ⟨⟨h₁, tk₁, rfl⟩, k₁⟩ := g
  exact ex_then R hr S' ((Kept.of_ext k₁).trans k)

theorem Ex.ret {e : Expr} {pos : Pos} {a : AV} (he : Ev prog w K n env ex vs e a) (hq : ∀ h v, StS K env h₀ ex vs h → Val h ex v a → Q (.ret v) h) : Ex prog w n env ex (StS K env h₀ ex vs) (.Return (some e) pos :: rest) Q := by
  intro A R s E hS
  refine wpAny_execs_cons (wpAny_Return_some (he A R s _ _ hS.e fun v s₁ g q => ?_))
  exact ⟨g.same, Kept.of_ext g.ext, hq _ v (hS.grow g) q⟩
theorem Ex.brk {pos : Pos} (hq : ∀ h, S h → Q .brk h) : Ex prog w n env ex S (.Break pos :: rest) Q :=
  fun A R s E hS => wpAny_execs_cons (wpAny_Break ⟨⟨_, _, rfl⟩, Kept.refl, hq _ hS⟩)
theorem Ex.cont {pos : Pos} (hq : ∀ h, S h → Q .cont h) : Ex prog w n env ex S (.Continue pos :: rest) Q :=
  fun A R s E hS => wpAny_execs_cons (wpAny_Continue ⟨⟨_, _, rfl⟩, Kept.refl, hq _ hS⟩)

/-- x += e -/
theorem Ex.aug {x : Str} {p' pos : Pos} {op : Operator} {e : Expr} {a b c : AV} (hm : (x, Slot.val a) ∈ vs) (he : Ev prog w K n env ex vs e b)
    (ho : ∀ (A : Around), Room n A → ∀ (s : Shared) (Q E : Value → Shared → Prop) u v, There ex s.heap → Val s.heap ex u a → Val s.heap ex v b → (∀ v s', Grown s s' → Val s'.heap ex v c → Q v s') → wpAny (model prog w) A (inplaceOp op u v) Q E s)
    (u : Upd x (.val c) vs vs') (hr : Ex prog w n env ex (StS K env h₀ ex vs') rest Q) : Ex prog w n env ex (StS K env h₀ ex vs) (.AugAssign (.Name x p') op e pos :: rest) Q := by
  intro A R s E hS
  obtain ⟨v₀, g₀, q₀⟩ := hS.e.holds _ hm
  refine wpAny_execs_cons (wpAny_AugAssign_Name (load_name hS.e g₀ (he A R s _ _ hS.e fun v s₁ g q => ho A R s₁ _ _ v₀ v (hS.grow g).e.there (q₀.up g.ext) q fun r s₂ g₂ q₂ => store_val ((hS.grow g).grow g₂) u q₂ fun h' tk S' k => ?_)))
  have g₃ := g.trans g₂
  obtain ⟨⟨h₁, tk₁, rfl⟩, k₁⟩ := g₃
  exact ex_then R hr S' ((Kept.of_ext k₁).trans k)

/-- a while: σ the states between the turns, μ falls -/
theorem Ex.while {σ : Type} (V : σ → Vars) (P : σ → Prop) (μ : σ → Nat) (b : σ → Bool) {test : Expr} {body : List Stmt} {pos : Pos} (c₀ : σ) (hc₀ : P c₀) (hv : V c₀ = vs)
    (ht : ∀ c, P c → Te prog w K n env ex (V c) test (b c))
    (turn : ∀ c, P c → b c = true → Ex prog w n env ex (StS K env h₀ ex (V c)) body (fun f h => match f with
      | .next | .cont => ∃ c', P c' ∧ μ c' < μ c ∧ StS K env h₀ ex (V c') h
      | .brk => False
      | .ret v => Q (.ret v) h))
    (done : ∀ c, P c → b c = false → Ex prog w n env ex (StS K env h₀ ex (V c)) rest Q) : Ex prog w n env ex (StS K env h₀ ex vs) (.While test body [] pos :: rest) Q := by
  intro A R s E hS
  subst hv
  refine wpAny_execs_cons (wpAny_While (codeAny_whileLoop (fun k s' => ∃ c h' tk, s' = { s with heap := h', toks := tk } ∧ k = μ c ∧ P c ∧ StS K env h₀ ex (V c) h' ∧ Kept env ex s.heap h') ?_ (μ c₀) ⟨c₀, s.heap, s.toks, rfl, rfl, hc₀, hS, Kept.refl⟩))
  rintro k s' ⟨c, h', tk, rfl, rfl, hp, S', kk⟩
  refine ht c hp A R _ _ _ S'.e fun s₁ g => ?_
  obtain ⟨⟨h₁, tk₁, rfl⟩, k₁⟩ := g
  cases hb : b c with
  | true =>
    simp only [if_true]
    refine wpAny_mono (turn c hp hb A R { s with heap := h₁, toks := tk₁ } _ (S'.up k₁)) (fun f s₂ ⟨⟨h₂, tk₂, e₂⟩, k₂, q⟩ => ?_) fun _ _ x => x
    subst e₂
    have kall : Kept env ex s.heap h₂ := (kk.trans (Kept.of_ext k₁)).trans k₂
    cases f with
    | next => obtain ⟨c', p', m', S₂⟩ := q; exact ⟨_, m', c', h₂, tk₂, rfl, rfl, p', S₂, kall⟩
    | cont => obtain ⟨c', p', m', S₂⟩ := q; exact ⟨_, m', c', h₂, tk₂, rfl, rfl, p', S₂, kall⟩
    | brk => exact q.elim
    | ret v => exact ⟨⟨_, _, rfl⟩, kall, q⟩
  | false =>
    simp only [Bool.false_eq_true, if_false]
    exact wpAny_execs_nil (ex_then R (done c hp hb) (S'.up k₁) (kk.trans (Kept.of_ext k₁)))

/-- an object that is neither a name's place nor a list changes -/
theorem StS.other {h h' : Heap} {I : Addr} {o : Obj} {fs : Array Value} (S : StS K env h₀ ex vs h) (ho : h.get? I = some o) (hd : o.data = .fields fs) (h0 : h₀.get? I = none) (hI : ¬ ex I) (k : ∀ b o, b ≠ I → h.get? b = some o → h'.get? b = some o) : StS K env h₀ ex vs h' := by
  have nL : env.locals ≠ I := fun q => by
    obtain ⟨m, o', es, ep, ho', hd', _⟩ := S.ns
    rw [q, ho] at ho'; cases ho'; rw [hd] at hd'; cases hd'
  have nC : ∀ x c, env.cells.lookup x = some c → c ≠ I := fun x c hc q => by
    obtain ⟨_, v, o', ho', hd'⟩ := S.cells x c hc
    rw [q, ho] at ho'; cases ho'; rw [hd] at hd'; cases hd'
  have sk : SeqKept ex h h' := fun b o' items n hb e hd' => k b o' (fun q => by rw [q, ho] at e; cases e; rw [hd] at hd'; cases hd') e
  have gg : ∀ {x : Str} {v : Value}, Get env h x v → Get env h' x v := by
    intro x v g
    cases g with
    | loc m a b c => exact .loc m a (b.at' fun o e => k _ o nL e) c
    | cel c a b d => obtain ⟨o', ho', hd'⟩ := d; exact .cel c a b ⟨o', k _ _ (nC x c b) ho', hd'⟩
  refine ⟨⟨S.e.fn, S.e.gl, S.e.bl, S.base0.up (fun b o' e => k b o' (fun q => by rw [q, h0] at e; cases e) (S.keep b o' e)), ?_, ?_⟩, S.base0, ?_, fun b o' e => k b o' (fun q => by rw [q, h0] at e; cases e) (S.keep b o' e), S.newL, S.newO, S.ownd, ?_, S.celld, S.names, S.kinds⟩
  · intro b hb
    obtain ⟨o', e⟩ := S.e.there b hb
    exact ⟨o', k b o' (fun q => hI (q ▸ hb)) e⟩
  · intro p hp
    have old := S.e.holds p hp
    obtain ⟨y, sl⟩ := p
    cases sl with
    | free => trivial
    | val a => obtain ⟨v, g, q⟩ := old; exact ⟨v, gg g, q.moves sk fun _ _ n _ => n⟩
    | own l pp xs => obtain ⟨g, e, us, il, r⟩ := old; exact ⟨gg g, e, us, il.goes fun o' e' => k _ o' (fun q => hI (q ▸ e)) e', r.moves sk fun _ _ n _ => n⟩
  · obtain ⟨m, q⟩ := S.ns; exact ⟨m, q.at' fun o e => k _ o nL e⟩
  · intro x c hc
    obtain ⟨a, v, o', ho', hd'⟩ := S.cells x c hc
    exact ⟨a, v, o', k _ _ (nC x c hc) ho', hd'⟩

/-- the loop over an iterator that walks -/
theorem loop_walk {σ : Type} (V : σ → Vars) (P : Nat → σ → Prop) (B : Heap → Prop) {A : Around} (R : Room n A) {s : Shared} {RR : Result → Shared → Prop}
    {x : Str} {px : Pos} {body : List Stmt} {I : Addr} {fp : List Addr} {len : Nat} {PP : Nat → Value → Prop} {St : Nat → Heap → Prop} (W : Walks prog w A I fp [I] len PP St)
    (hf : ∀ i h, St i h → ∃ o fs, h.get? I = some o ∧ o.data = .fields fs) (h0 : h₀.get? I = none) (hI : ¬ ex I)
    (hfp : ∀ b ∈ fp, b ≠ env.locals ∧ (∀ x c, env.cells.lookup x = some c → b ≠ c) ∧ ¬ ex b)
    (Φ : Heap → Prop) (hΦ : ∀ h h', Φ h → SeqKept ex h h' → Φ h') (xs : Nat → AV) (hx : ∀ i v h, i < len → PP i v → Φ h → Val h ex v (xs i))
    (hB : Heap) (hBI : hB.get? I = none) (hBs : Kept env ex hB s.heap)
    (c₀ : σ) (hp₀ : P 0 c₀) (S₀ : StS K env h₀ ex (V c₀) s.heap) (hst : St 0 s.heap) (hΦ₀ : Φ s.heap)
    (turn : ∀ i c, i < len → P i c → ∃ vs', Upd x (.val (xs i)) (V c) vs' ∧ Ex prog w n env ex (StS K env h₀ ex vs') body (fun f h => match f with
      | .next | .cont => ∃ c', P (i + 1) c' ∧ StS K env h₀ ex (V c') h
      | .brk => B h
      | .ret v => Q (.ret v) h))
    (done : ∀ c h tk, P len c → StS K env h₀ ex (V c) h → Kept env ex hB h → RR (.ok .next) { s with heap := h, toks := tk })
    (brk : ∀ h tk, B h → Kept env ex hB h → RR (.ok .next) { s with heap := h, toks := tk })
    (ret : ∀ v h tk, Q (.ret v) h → Kept env ex hB h → RR (.ok (.ret v)) { s with heap := h, toks := tk }) :
    codeAny (model prog w) A (.forLoop (.Name x px) (.ref I) body [] env) RR s := by
  refine codeAny_forLoop (fun k s' => ∃ i c h' tk, s' = { s with heap := h', toks := tk } ∧ i ≤ len ∧ k = len + 1 - i ∧ P i c ∧ StS K env h₀ ex (V c) h' ∧ St i h' ∧ Φ h' ∧ Kept env ex hB h') ?_ (len + 1) ⟨0, c₀, s.heap, s.toks, rfl, Nat.zero_le _, rfl, hp₀, S₀, hst, hΦ₀, hBs⟩
  rintro k s' ⟨i, c, h', tk, rfl, hi, rfl, hp, S', st, ph, kk⟩
  obtain ⟨o, fs, ho, hd⟩ := hf i h' st
  have sk : ∀ {h₁ : Heap}, (∀ b o, b ∉ [I] → h'.get? b = some o → h₁.get? b = some o) → SeqKept ex h' h₁ := fun k₁ b o' items n _ e hd' =>
    k₁ b o' (by intro q; rw [List.mem_singleton.mp q, ho] at e; cases e; rw [hd] at hd'; cases hd') e
  by_cases hlt : i < len
  · refine W.item i _ _ _ hlt st fun v h₁ tk₁ hPv st₁ k₁ => ?_
    have S₁ : StS K env h₀ ex (V c) h₁ := S'.other ho hd h0 hI fun b o hb e => k₁ b o (by simpa using hb) e
    have kk₁ : Kept env ex hB h₁ := fun b o a1 a2 a3 e => k₁ b o (by
      intro q; rw [List.mem_singleton.mp q, hBI] at e; cases e) (kk b o a1 a2 a3 e)
    obtain ⟨vs', u, body⟩ := turn i c hlt hp
    have ph₁ := hΦ _ _ ph (sk k₁)
    refine wpAny_assign_Name (store_val S₁ u (hx i v h₁ hlt hPv ph₁) fun h₂ tk₂ S₂ k₂ => ?_)
    have ph₂ := hΦ _ _ ph₁ (S₁.seqKept k₂)
    refine wpAny_mono (body A R _ _ S₂) (fun f s₃ ⟨⟨h₃, tk₃, e₃⟩, k₃, q⟩ => ?_) fun _ _ x => x
    subst e₃
    have ph₃ := hΦ _ _ ph₂ (S₂.seqKept k₃)
    have kk₃ : Kept env ex hB h₃ := (kk₁.trans k₂).trans k₃
    have st₃ : St (i + 1) h₃ := W.frame _ _ _ st₁ fun b hb o e => let q := hfp b hb; k₃ b o q.1 q.2.1 q.2.2 (k₂ b o q.1 q.2.1 q.2.2 e)
    cases f with
    | next => obtain ⟨c', p', S₃⟩ := q; exact ⟨len + 1 - (i + 1), by omega, i + 1, c', h₃, tk₃, rfl, hlt, rfl, p', S₃, st₃, ph₃, kk₃⟩
    | cont => obtain ⟨c', p', S₃⟩ := q; exact ⟨len + 1 - (i + 1), by omega, i + 1, c', h₃, tk₃, rfl, hlt, rfl, p', S₃, st₃, ph₃, kk₃⟩
    | brk => exact brk h₃ tk₃ q kk₃
    | ret v => exact ret v h₃ tk₃ q kk₃
  · have hin : i = len := by omega
    subst hin
    refine W.done _ _ _ st fun h₁ tk₁ k₁ => wpAny_execs_nil ?_
    refine done c h₁ tk₁ hp (S'.other ho hd h0 hI fun b o hb e => k₁ b o (by simpa using hb) e) fun b o a1 a2 a3 e => k₁ b o (by
      intro q; rw [List.mem_singleton.mp q, hBI] at e; cases e) (kk b o a1 a2 a3 e)

/-- an expression that makes a range -/
def EvR (prog : Program) (w : World) (K : Frag) (n : Nat) (env : Env) (ex : Addr → Prop) (vs : Vars) (e : Expr) (a b c : Int) : Prop :=
  ∀ (A : Around), Room n A → ∀ (s : Shared) (Q : Value → Shared → Prop) (E : Value → Shared → Prop), StE K env ex vs s.heap →
    (∀ r t u v s', Grown s s' → IsRange s'.heap r a b c t u v → Q (.ref r) s') → wpAny (model prog w) A (eval e env) Q E s

theorem Ex.forR {σ : Type} (V : σ → Vars) (P : Nat → σ → Prop) (B : Heap → Prop) {x : Str} {px pos : Pos} {iter : Expr} {body : List Stmt} {a b d : Int} {len : Nat} (c₀ : σ)
    (hit : EvR prog w K n env ex vs iter a b d) (hsmall : Builtin.Range.small a b d = true) (hlen : Builtin.Range.rangeSize a b d = (len : Int)) (hv : V c₀ = vs) (hp₀ : P 0 c₀)
    (turn : ∀ i c, i < len → P i c → ∃ vs', Upd x (.val (.int (a + i * d))) (V c) vs' ∧ Ex prog w n env ex (StS K env h₀ ex vs') body (fun f h => match f with
      | .next | .cont => ∃ c', P (i + 1) c' ∧ StS K env h₀ ex (V c') h
      | .brk => B h
      | .ret v => Q (.ret v) h))
    (done : ∀ c, P len c → Ex prog w n env ex (StS K env h₀ ex (V c)) rest Q)
    (brk : Ex prog w n env ex B rest Q)
    (hs : ∀ x, foldedSetIterable iter env x = pure x := by intro _; rfl) : Ex prog w n env ex (StS K env h₀ ex vs) (.For (.Name x px) iter body [] pos :: rest) Q := by
  intro A R s E hS
  subst hv
  refine wpAny_execs_cons (wpAny_For (hit A R s _ _ hS.e fun r t u v s₁ g q => ?_) hs)
  have S₁ := hS.grow g
  refine wpAny_pyIter_range q hsmall ?_
  obtain ⟨⟨h₁, tk₁, rfl⟩, k₁⟩ := g
  have hIne : ∀ b o, h₁.get? b = some o → b ≠ h₁.objs.size := fun b o e => Nat.ne_of_lt (Heap.lt_size e)
  have W := Walks.range (prog := prog) (w := w) (A := A) R.1 h₁.objs.size a d len
  have hnI : ¬ ex h₁.objs.size := S₁.e.there.next
  have hI0 : h₀.get? h₁.objs.size = none := by
    cases e : h₀.get? h₁.objs.size with
    | none => rfl
    | some o => exact absurd rfl (hIne _ _ (S₁.keep _ _ e))
  have nL : h₁.objs.size ≠ env.locals := by obtain ⟨m, q⟩ := S₁.ns; exact fun e => Nat.lt_irrefl _ (e ▸ q.lt)
  have nC : ∀ x c, env.cells.lookup x = some c → h₁.objs.size ≠ c := fun x c hc e => by obtain ⟨_, v, q⟩ := S₁.cells x c hc; exact Nat.lt_irrefl _ (e ▸ q.lt)
  refine loop_walk (K := K) (h₀ := h₀) (ex := ex) (env := env) (Q := Q) V P B R W (fun i h st => ⟨_, _, st, rfl⟩) hI0 hnI ?_ (fun _ => True) (fun _ _ _ _ => trivial) (fun i => .int (a + i * d)) ?_ h₁ (no_next h₁) ?_ c₀ hp₀ ?_ ?_ trivial ?_ ?_ ?_ ?_
  · intro b hb
    rw [List.mem_singleton.mp hb]; exact ⟨nL, nC, hnI⟩
  · intro i v h hi hPv _
    obtain ⟨t, rfl⟩ := hPv
    exact .int _ _
  · exact Kept.of_ext fun b o e => Heap.get?_push_of_some _ e
  · exact S₁.up fun b o e => Heap.get?_push_of_some _ e
  · show IsRangeIter _ _ _ _ _
    rw [hlen]
    simpa using Heap.get?_push_size _ rfl
  · intro i c hi hp
    exact turn i c hi hp
  · intro c h tk hp S' kk
    exact ex_then R (done c hp) S' ((Kept.of_ext k₁).trans kk)
  · intro h tk hb kk
    exact ex_then R brk hb ((Kept.of_ext k₁).trans kk)
  · intro v h tk hq kk
    exact ⟨⟨_, _, rfl⟩, (Kept.of_ext k₁).trans kk, hq⟩
end
end Mine

end T_DC

section T_DD
open PySem PySem.W PyProof.Rows PySem.Calls PySem.Spec
set_option linter.unusedVariables false
set_option linter.unusedSimpArgs false
namespace Mine

def No : Addr → Prop := fun _ => False
def Old (h : Heap) (b : Addr) : Prop := ∃ o, h.get? b = some o

inductive Flat : AV → Prop
  | none : Flat .none
  | bool (b : Bool) : Flat (.bool b)
  | int (i : Int) : Flat (.int i)
  | str (x : Str) : Flat (.str x)
theorem Val.flat {h h' : Heap} {ex ex' : Addr → Prop} {v : Value} {a : AV} (f : Flat a) (x : Val h ex v a) : Val h' ex' v a := by
  cases f <;> cases x <;> constructor
theorem Vals.flat {h h' : Heap} {ex ex' : Addr → Prop} : ∀ {vs : List Value} {as : List AV}, (∀ a ∈ as, Flat a) → Vals h ex vs as → Vals h' ex' vs as
  | _, _, _, .nil => .nil
  | _, _, f, .cons x r => .cons (x.flat (f _ List.mem_cons_self)) (Vals.flat (fun a ha => f a (List.mem_cons_of_mem _ ha)) r)

section
variable (prog : Program) (w : World) (K : Frag)
/-- arguments, one after the other -/
def EvS (n : Nat) (env : Env) (ex : Addr → Prop) (vs : Vars) (es : List Expr) (as : List AV) : Prop :=
  ∀ (A : Around), Room n A → ∀ (pos : Pos) (s : Shared) (Q : List Value → Shared → Prop) (E : Value → Shared → Prop), StE K env ex vs s.heap →
    (∀ us s', Grown s s' → Vals s'.heap ex us as → Q us s') → wpAny (model prog w) A (spliced (backTo pos (starEach es env))) Q E s
/-- a def's contract -/
def CallP (n : Nat) (f : Addr) (as : List AV) (r : AV) : Prop :=
  ∀ (A : Around), Room n A → ∀ (s : Shared) (Q : Value → Shared → Prop) (E : Value → Shared → Prop) (us : List Value), Base K s.heap → Vals s.heap No us as →
    (∀ v s', Grown s s' → Val s'.heap (Old s.heap) v r → Q v s') → wpAny (model prog w) A (call (.ref f) us) Q E s
end

section
variable {prog : Program} {w : World} {K : Frag} {n : Nat} {env : Env} {ex : Addr → Prop} {vs : Vars}

theorem EvS.nil : EvS prog w K n env ex vs [] [] := fun A R pos s Q E S h => wpAny_items_nil (h [] s (Grown.refl s) .nil)
theorem EvS.cons {e : Expr} {es : List Expr} {a : AV} {as : List AV} (he : Ev prog w K n env ex vs e a) (hr : EvS prog w K n env ex vs es as) (hst : starEach (e :: es) env = (false, eval e env) :: starEach es env := by rfl) : EvS prog w K n env ex vs (e :: es) (a :: as) := by
  intro A R pos s Q E S h
  refine wpAny_items_cons (he A R s _ _ S fun v s₁ g₁ q₁ => hr A R pos s₁ _ _ (S.up g₁) fun us s₂ g₂ q₂ => h _ s₂ (g₁.trans g₂) (.cons (q₁.up g₂.ext) q₂)) hst

theorem eval_Call_Name (x : Str) (p : Pos) (args : List Expr) (kws : List Keyword) (pos : Pos) : eval (.Call (.Name x p) args kws pos) env = (do callWith pos (← eval (.Name x p) env) [] (backTo pos (starEach args env)) (backToKw pos (keywordEach kws env))) := rfl

theorem Ev.call {x : Str} {p pos : Pos} {args : List Expr} {f : Addr} {o : Obj} {fd : FuncData} {as : List AV} {r : AV} (e : nsIn K mainGlobals x = some (some (.ref f))) (hx : env.kindOf x = some .globalImplicit)
    (ho : K.lookup f = some o) (hd : o.data = .func fd) (ha : EvS prog w K n env ex vs args as) (hc : CallP prog w K n f as r) (hst : ∃ e rest, starEach args env = (false, e) :: rest := by exact ⟨_, _, rfl⟩) (hdd : (x == ("__debug__" : Str)) = false := by decide) :
    Ev prog w K n env ex vs (.Call (.Name x p) args [] pos) r := by
  intro A R s Q E S h
  rw [eval_Call_Name]
  obtain ⟨mg, G⟩ := S.base.g
  refine wpAny_bind (Name_function_global S.fn hx (loadGlobal_global (S.gl ▸ G) (mg_of S.base.k G e) ?_) hdd)
  refine callWith_function (o := o) (fd := fd) ?_
  obtain ⟨e1, rest, he⟩ := hst
  have key : wpAny (model prog w) A (spliced (backTo pos (starEach args env))) (fun us s₁ => (s₁.heap.get? f = some o ∧ o.data = .func fd) ∧ wpAny (model prog w) A (PySem.call (.ref f) us) Q E s₁) E s :=
    ha A R pos s _ _ S fun us s₁ g q => ⟨⟨(S.up g).base.k _ _ ho, hd⟩, hc A R s₁ Q E us (S.up g).base (q.weak fun _ x => x.elim) fun v s₂ g₂ q₂ => h v s₂ (g.trans g₂) (q₂.weak fun b hb => (S.up g).there b hb)⟩
  rw [he] at key ⊢
  exact evalArgs_plain key

def entryV (ps : List Str) (as : List AV) (ls : List Str) : Vars := (ps.zip as).map (fun p => (p.1, Slot.val p.2)) ++ ls.map fun x => (x, Slot.free)

theorem look_zip : ∀ {ps : List Str} {us : List Value} {as : List AV} {h : Heap} {ex : Addr → Prop}, ps.Nodup → Vals h ex us as → ∀ p ∈ ps.zip as, ∃ v, (ps.zip us).lookup p.1 = some v ∧ Val h ex v p.2
  | [], us, as, h, ex, hn, q, p, hp => by simp at hp
  | x :: ps, _, _, h, ex, hn, .nil, p, hp => by simp at hp
  | x :: ps, _, _, h, ex, hn, .cons (v := v) (a := a) y r, p, hp => by
    rw [List.nodup_cons] at hn
    rw [List.zip_cons_cons] at hp
    rcases List.mem_cons.mp hp with e | hp
    · subst e; exact ⟨v, by simp [List.zip_cons_cons, List.lookup_cons], y⟩
    · obtain ⟨v', h1, h2⟩ := look_zip hn.2 r p hp
      refine ⟨v', ?_, h2⟩
      have hne : (p.1 == x) = false := by
        refine beq_eq_false_iff_ne.mpr fun e => hn.1 (e ▸ ?_)
        exact (List.of_mem_zip hp).1
      rw [List.zip_cons_cons, List.lookup_cons, hne]
      exact h1
theorem lookup_rev_nodup : ∀ {l : List (Str × Value)} {x : Str} {v : Value}, (l.map (·.1)).Nodup → l.lookup x = some v → l.reverse.lookup x = some v := by
  intro l
  induction l with
  | nil => intro x v _ h; simp at h
  | cons p r ih =>
    intro x v hn h
    rw [List.map_cons, List.nodup_cons] at hn
    rw [List.reverse_cons, List.lookup_append]
    rw [List.lookup_cons] at h
    cases hx : x == p.1 with
    | true =>
      rw [hx] at h
      simp only at h
      have hnone : r.reverse.lookup x = none := by
        cases e : r.reverse.lookup x with
        | none => rfl
        | some u =>
          have hmem : (x, u) ∈ r.reverse := by
            have := List.lookup_eq_some_iff.mp e
            obtain ⟨l₁, l₂, h1, _⟩ := this
            rw [h1]; simp
          exact absurd (List.mem_map.mpr ⟨(x, u), List.mem_reverse.mp hmem, rfl⟩) (by rw [beq_iff_eq.mp hx]; exact hn.1)
      rw [hnone]
      obtain ⟨p1, p2⟩ := p
      show List.lookup x [(p1, p2)] = some v
      rw [List.lookup_cons, hx]
      exact h
    | false =>
      rw [hx] at h
      rw [ih hn.2 h]
      rfl

/-- what kind of name each is -/
def Kinds (env : Env) (names : List (Str × NameKind)) : Prop := (∀ x, env.kindOf x = names.lookup x) ∧ env.scope.kind = .function
theorem Kinds.get {env : Env} {names : List (Str × NameKind)} {x : Str} {k : Option NameKind} (h : Kinds env names) (e : names.lookup x = k) : env.kindOf x = k := (h.1 x).trans e
theorem CallP.def {f : Addr} {o : Obj} {fd : FuncData} {nm : List (Str × NameKind)} {body : List Stmt} {ps ls : List Str} {as : List AV} {r : AV} (exf : Heap → Addr → Prop)
    (ho : K.lookup f = some o) (hd : o.data = .func fd) (hcd : codeIn K fd.code fd.qualname = true) (hbody : fd.body = .stmts body) (hnm : fd.scope.names = nm)
    (hcell : (fd.scope.names.all fun x => x.2 != .cell) = true) (hgl : fd.globals = mainGlobals) (hbl : fd.builtins = builtinsNs) (hcl : fd.closure = [])
    (hnd : decide (ps ++ ls).Nodup = true) (hkinds : ((ps ++ ls).all fun x => fd.scope.names.lookup x == some .local) = true) (hlen : as.length = ps.length)
    (hbind : ∀ us : List Value, us.length = ps.length → bindArgs fd ⟨us, []⟩ = pure (ps.zip us))
    (hA : ∀ h us, Vals h No us as → Vals h (exf h) us as) (hT : ∀ h, There (exf h) h)
    (hb : ∀ (env : Env) (h₀ : Heap), Kinds env nm → env.cells = [] → Base K h₀ → Ex prog w n env (exf h₀) (StS K env h₀ (exf h₀) (entryV ps as ls)) body (fun fl h => Ext h₀ h ∧ Val h (Old h₀) (match fl with | .ret v => v | _ => .none) r))
    (hco : fd.scope.isCoroutine = false := by rfl) (hgen : fd.scope.isGenerator = false := by rfl) (hk : fd.scope.kind = .function := by rfl) : CallP prog w K (n + 1) f as r := by
  intro A R s Q E us B q h
  have hus : us.length = ps.length := q.length.trans hlen
  have hnd' : (ps ++ ls).Nodup := of_decide_eq_true hnd
  have hkn : ∀ x ∈ ps ++ ls, fd.scope.names.lookup x = some .local := fun x hx => by simpa using List.all_eq_true.mp hkinds x hx
  have hzn : ((ps.zip us).map (·.1)) = ps := by rw [List.map_fst_zip (by omega)]
  refine wpAny_call (codeAny_call_def R.depth (B.k _ _ ho) hd B.lim (codeRec_of B.k hcd) hbody (BindsTo.of_eq (hbind us hus)) (fun x hx => by simpa using List.all_eq_true.mp hcell x hx)
    (fun x hx => hkn _ (List.mem_append_left _ ((List.of_mem_zip hx).1))) (fun h₁ hns hk₁ => ?_) hco hgen hk)
  have S : StS K (callEnv fd s.heap.objs.size f) s.heap (exf s.heap) (entryV ps as ls) h₁ := by
    refine ⟨⟨hk, hgl, hbl, B.up hk₁, (hT s.heap).up hk₁, ?_⟩, B, ⟨_, hns⟩, hk₁, no_next _, ?_, ?_, ?_, ?_, ?_, ?_⟩
    · intro p hp
      rcases List.mem_append.mp hp with hp | hp
      · obtain ⟨⟨x, a⟩, hp', rfl⟩ := List.mem_map.mp hp
        obtain ⟨v, h1, h2⟩ := look_zip (List.nodup_append.mp hnd').1 (hA _ _ q) (x, a) hp'
        refine ⟨v, .loc _ (hkn x (List.mem_append_left _ (List.of_mem_zip hp').1)) hns ?_, h2.up hk₁⟩
        exact lookup_rev_nodup (by rw [hzn]; exact (List.nodup_append.mp hnd').1) h1
      · obtain ⟨x, _, rfl⟩ := List.mem_map.mp hp; trivial
    · intro x l pp xs hp
      rcases List.mem_append.mp hp with hp | hp
      · obtain ⟨_, _, e⟩ := List.mem_map.mp hp; cases e
      · obtain ⟨_, _, e⟩ := List.mem_map.mp hp; cases e
    · intro x y l pp qq xs ys hp
      rcases List.mem_append.mp hp with hp | hp
      · obtain ⟨_, _, e⟩ := List.mem_map.mp hp; cases e
      · obtain ⟨_, _, e⟩ := List.mem_map.mp hp; cases e
    · intro x c hc
      have : (callEnv fd s.heap.objs.size f).cells = [] := hcl
      rw [this] at hc; cases hc
    · intro x y c hc
      have : (callEnv fd s.heap.objs.size f).cells = [] := hcl
      rw [this] at hc; cases hc
    · have : (entryV ps as ls).map (·.1) = ps ++ ls := by
        unfold entryV
        rw [List.map_append, List.map_map, List.map_map]
        have e1 : ((ps.zip as).map ((fun x : Str × Slot => x.1) ∘ fun p => (p.1, Slot.val p.2))) = ps := (List.map_fst_zip (by omega) : (ps.zip as).map Prod.fst = ps)
        have e2 : (ls.map ((fun x : Str × Slot => x.1) ∘ fun x => (x, Slot.free))) = ls := List.map_id ls
        rw [e1, e2]
      rw [this]; exact hnd'
    · intro p hp
      refine .inl (hkn p.1 ?_)
      rcases List.mem_append.mp hp with hp | hp
      · obtain ⟨⟨x, a⟩, hp', rfl⟩ := List.mem_map.mp hp
        exact List.mem_append_left _ (List.of_mem_zip hp').1
      · obtain ⟨x, hx, rfl⟩ := List.mem_map.mp hp; exact List.mem_append_right _ hx
  refine wpAny_mono (hb (callEnv fd s.heap.objs.size f) s.heap ⟨fun _ => hnm ▸ rfl, hk⟩ hcl B _ (R.deeper _) _ _ S) (fun fl s' ⟨⟨h', tk, e⟩, _, k, v⟩ => ?_) fun _ _ x => x
  subst e
  exact h _ _ ⟨⟨_, _, rfl⟩, k⟩ v
end
end Mine

end T_DD

section T_DE
open PySem PySem.W PyProof.Rows PySem.Calls PySem.Spec
set_option linter.unusedVariables false
set_option linter.unusedSimpArgs false
namespace Mine
section
variable (prog : Program) (w : World)
/-- an operation on two values that bear a and b -/
def OpOk (n : Nat) (ex : Addr → Prop) (t : Value → Value → Sem Value) (a b c : AV) : Prop :=
  ∀ (A : Around), Room n A → ∀ (s : Shared) (Q E : Value → Shared → Prop) u v, There ex s.heap → Val s.heap ex u a → Val s.heap ex v b → (∀ v s', Grown s s' → Val s'.heap ex v c → Q v s') → wpAny (model prog w) A (t u v) Q E s
def TruOk (n : Nat) (ex : Addr → Prop) (a : AV) (b : Bool) : Prop :=
  ∀ (A : Around), Room n A → ∀ (s : Shared) (Q : Bool → Shared → Prop) (E : Value → Shared → Prop) u, There ex s.heap → Val s.heap ex u a → (∀ s', Grown s s' → Q b s') → wpAny (model prog w) A (truthy u) Q E s
end

section
variable {prog : Program} {w : World} {K : Frag} {n : Nat} {env : Env} {ex : Addr → Prop} {vs : Vars}

theorem Ev.op {l r : Expr} {op : Operator} {p : Pos} {a b c : AV} (hl : Ev prog w K n env ex vs l a) (hr : Ev prog w K n env ex vs r b) (ho : OpOk prog w n ex (binaryOp op) a b c) : Ev prog w K n env ex vs (.BinOp l op r p) c := Ev.binop hl hr ho
theorem Ev.cmp {l r : Expr} {op : CmpOp} {p : Pos} {a b c : AV} (hl : Ev prog w K n env ex vs l a) (hr : Ev prog w K n env ex vs r b) (ho : OpOk prog w n ex (compareOp op) a b c) (hm : behindInMarks op r = false := by with_unfolding_all rfl) : Ev prog w K n env ex vs (.Compare l [op] [r] p) c := by
  intro A R s Q E S h
  refine wpAny_Compare1 (hl A R s _ _ S fun u s₁ g₁ q₁ => hr A R s₁ _ _ (S.up g₁) fun v s₂ g₂ q₂ => ?_) hm
  exact ho A R s₂ Q E u v ((S.up g₁).up g₂).there (q₁.up g₂.ext) q₂ fun v s' g₃ q => h v s' ((g₁.trans g₂).trans g₃) q
theorem Te.cmp {l r : Expr} {op : CmpOp} {p : Pos} {a b : AV} {c : Bool} (hl : Ev prog w K n env ex vs l a) (hr : Ev prog w K n env ex vs r b) (ho : OpOk prog w n ex (compareOp op) a b (.bool c)) (hm : behindInMarks op r = false := by with_unfolding_all rfl) : Te prog w K n env ex vs (.Compare l [op] [r] p) c := by
  intro A R s Q E S h
  refine wpAny_isTrue_Compare1 (hl A R s _ _ S fun u s₁ g₁ q₁ => hr A R s₁ _ _ (S.up g₁) fun v s₂ g₂ q₂ => ?_) hm
  refine ho A R s₂ _ E u v ((S.up g₁).up g₂).there (q₁.up g₂.ext) q₂ fun v s' g₃ q => ?_
  cases q
  exact wpAny_truthy_bool (h s' ((g₁.trans g₂).trans g₃))
theorem Te.plain {e : Expr} {a : AV} {b : Bool} (he : Ev prog w K n env ex vs e a) (ht : TruOk prog w n ex a b) (hw : isTrue e env (eval e env) = (do let v ← eval e env; standAt e.pos; holding [v] (truthy v)) := by rfl) : Te prog w K n env ex vs e b := by
  intro A R s Q E S h
  exact isTrue_plain (he A R s _ _ S fun v s₁ g₁ q₁ => ht A R s₁ Q E v (S.up g₁).there q₁ fun s' g₂ => h s' (g₁.trans g₂)) hw
theorem Te.not {e : Expr} {b : Bool} {p : Pos} (he : Te prog w K n env ex vs e b) : Te prog w K n env ex vs (.UnaryOp .Not e p) (!b) := by
  intro A R s Q E S h
  exact isTrue_not (he A R s _ _ S fun s₁ g₁ => h s₁ g₁)
theorem Te.and_ff {x : Expr} {rest : List Expr} {p : Pos} (hx : Te prog w K n env ex vs x false) : Te prog w K n env ex vs (.BoolOp .And (x :: rest) p) false := by
  intro A R s Q E S h
  exact isTrue_and (hx A R s _ _ S fun s₁ g₁ => h s₁ g₁)
theorem Te.and_tt {x : Expr} {rest : List Expr} {p : Pos} {b : Bool} (hx : Te prog w K n env ex vs x true) (hr : Te prog w K n env ex vs (.BoolOp .And rest p) b) : Te prog w K n env ex vs (.BoolOp .And (x :: rest) p) b := by
  intro A R s Q E S h
  exact isTrue_and (hx A R s _ _ S fun s₁ g₁ => hr A R s₁ Q E (S.up g₁) fun s₂ g₂ => h s₂ (g₁.trans g₂))
theorem Te.and_nil {p : Pos} : Te prog w K n env ex vs (.BoolOp .And [] p) true := fun A R s Q E S h => isTrue_and_nil (h s (Grown.refl s))
theorem Te.or_tt {x : Expr} {rest : List Expr} {p : Pos} (hx : Te prog w K n env ex vs x true) : Te prog w K n env ex vs (.BoolOp .Or (x :: rest) p) true := by
  intro A R s Q E S h
  exact isTrue_or (hx A R s _ _ S fun s₁ g₁ => h s₁ g₁)
theorem Te.or_ff {x : Expr} {rest : List Expr} {p : Pos} {b : Bool} (hx : Te prog w K n env ex vs x false) (hr : Te prog w K n env ex vs (.BoolOp .Or rest p) b) : Te prog w K n env ex vs (.BoolOp .Or (x :: rest) p) b := by
  intro A R s Q E S h
  exact isTrue_or (hx A R s _ _ S fun s₁ g₁ => hr A R s₁ Q E (S.up g₁) fun s₂ g₂ => h s₂ (g₁.trans g₂))
theorem Te.or_nil {p : Pos} : Te prog w K n env ex vs (.BoolOp .Or [] p) false := fun A R s Q E S h => isTrue_or_nil (h s (Grown.refl s))
/-- a test of two or three parts, by what each is -/
theorem Te.and2 {x y : Expr} {p : Pos} {a b : Bool} (hx : Te prog w K n env ex vs x a) (hy : a = true → Te prog w K n env ex vs y b) : Te prog w K n env ex vs (.BoolOp .And [x, y] p) (a && b) := by
  cases a with
  | false => exact Te.and_ff hx
  | true => exact Te.and_tt hx (by cases b with | false => exact Te.and_ff (hy rfl) | true => exact Te.and_tt (hy rfl) Te.and_nil)
theorem Te.or2 {x y : Expr} {p : Pos} {a b : Bool} (hx : Te prog w K n env ex vs x a) (hy : a = false → Te prog w K n env ex vs y b) : Te prog w K n env ex vs (.BoolOp .Or [x, y] p) (a || b) := by
  cases a with
  | true => exact Te.or_tt hx
  | false => exact Te.or_ff hx (by cases b with | true => exact Te.or_tt (hy rfl) | false => exact Te.or_ff (hy rfl) Te.or_nil)
theorem Te.to {e : Expr} {b c : Bool} (h : Te prog w K n env ex vs e b) (hb : b = c) : Te prog w K n env ex vs e c := hb ▸ h
theorem Ev.to {e : Expr} {a c : AV} (h : Ev prog w K n env ex vs e a) (hb : a = c) : Ev prog w K n env ex vs e c := hb ▸ h

theorem Ev.or_tt {x y : Expr} {rest : List Expr} {p : Pos} {a : AV} (hx : Ev prog w K n env ex vs x a) (ht : TruOk prog w n ex a true) : Ev prog w K n env ex vs (.BoolOp .Or (x :: y :: rest) p) a := by
  intro A R s Q E S h
  exact BoolOp_or (hx A R s _ _ S fun v s₁ g₁ q₁ => ht A R s₁ _ E v (S.up g₁).there q₁ fun s₂ g₂ => h v s₂ (g₁.trans g₂) (q₁.up g₂.ext))
theorem Ev.or_ff {x y : Expr} {p : Pos} {a b : AV} (hx : Ev prog w K n env ex vs x a) (ht : TruOk prog w n ex a false) (hy : Ev prog w K n env ex vs y b) : Ev prog w K n env ex vs (.BoolOp .Or [x, y] p) b := by
  intro A R s Q E S h
  exact BoolOp_or (hx A R s _ _ S fun v s₁ g₁ q₁ => ht A R s₁ _ E v (S.up g₁).there q₁ fun s₂ g₂ => BoolOp_one (hy A R s₂ Q E ((S.up g₁).up g₂) fun v s₃ g₃ q => h v s₃ ((g₁.trans g₂).trans g₃) q))
theorem Ev.if_ {t x y : Expr} {p : Pos} {b : Bool} {a : AV} (ht : Te prog w K n env ex vs t b) (hx : b = true → Ev prog w K n env ex vs x a) (hy : b = false → Ev prog w K n env ex vs y a) : Ev prog w K n env ex vs (.IfExp t x y p) a := by
  intro A R s Q E S h
  refine IfExp_ (ht A R s _ _ S fun s₁ g₁ => ?_)
  cases b with
  | true => exact hx rfl A R s₁ Q E (S.up g₁) fun v s₂ g₂ q => h v s₂ (g₁.trans g₂) q
  | false => exact hy rfl A R s₁ Q E (S.up g₁) fun v s₂ g₂ q => h v s₂ (g₁.trans g₂) q
theorem Ev.neg {x : Expr} {p : Pos} {i : Int} (hx : Ev prog w K n env ex vs x (.int i)) : Ev prog w K n env ex vs (.UnaryOp .USub x p) (.int (-i)) := by
  intro A R s Q E S h
  refine UnaryOp_ (hx A R s _ _ S fun v s₁ g₁ q₁ => ?_)
  cases q₁
  exact PyProof.Rows.neg_int (h _ _ (g₁.trans (Grown.tok _ _)) (.int _ _))

/-! ### operations -/
theorem op_add_int {i j : Int} : OpOk prog w n ex (binaryOp .Add) (.int i) (.int j) (.int (i + j)) := by
  intro A R s Q E u v T hu hv h; cases hu; cases hv; exact PyProof.Rows.add_int (h _ _ (Grown.tok s _) (.int _ _))
theorem op_sub_int {i j : Int} : OpOk prog w n ex (binaryOp .Sub) (.int i) (.int j) (.int (i - j)) := by
  intro A R s Q E u v T hu hv h; cases hu; cases hv; exact PyProof.Rows.sub_int (h _ _ (Grown.tok s _) (.int _ _))
theorem op_mul_int {i j : Int} (hm : IntMulOk i j) : OpOk prog w n ex (binaryOp .Mult) (.int i) (.int j) (.int (i * j)) := by
  intro A R s Q E u v T hu hv h; cases hu; cases hv; exact PyProof.Rows.mul_int (h _ _ (Grown.tok s _) (.int _ _)) hm
theorem op_mod_int {i j : Int} (hj : j ≠ 0) : OpOk prog w n ex (binaryOp .Mod) (.int i) (.int j) (.int (i.fmod j)) := by
  intro A R s Q E u v T hu hv h; cases hu; cases hv; exact PyProof.Rows.mod_int' hj (h _ _ (Grown.tok s _) (.int _ _))
theorem op_add_str {x y : Str} (hs : x.length + y.length ≤ sizeLine) : OpOk prog w n ex (binaryOp .Add) (.str x) (.str y) (.str (x ++ y)) := by
  intro A R s Q E u v T hu hv h; cases hu; cases hv; exact PyProof.Rows.add_str (fun _ _ => h _ _ (Grown.tok s _) (.str _ _)) hs
theorem op_eq_str {x y : Str} : OpOk prog w n ex (compareOp .Eq) (.str x) (.str y) (.bool (x == y)) := by
  intro A R s Q E u v T hu hv h; cases hu; cases hv; exact PyProof.Rows.eq_str (h _ _ (Grown.refl s) (.bool _))
theorem op_ne_str {x y : Str} : OpOk prog w n ex (compareOp .NotEq) (.str x) (.str y) (.bool (x != y)) := by
  intro A R s Q E u v T hu hv h; cases hu; cases hv; exact PyProof.Rows.ne_str (h _ _ (Grown.refl s) (.bool _))
theorem op_eq_int {i j : Int} : OpOk prog w n ex (compareOp .Eq) (.int i) (.int j) (.bool (i == j)) := by
  intro A R s Q E u v T hu hv h; cases hu; cases hv; exact PyProof.Rows.eq_int (h _ _ (Grown.refl s) (.bool _))
theorem op_ne_int {i j : Int} : OpOk prog w n ex (compareOp .NotEq) (.int i) (.int j) (.bool (i != j)) := by
  intro A R s Q E u v T hu hv h; cases hu; cases hv; exact PyProof.Rows.ne_int (h _ _ (Grown.refl s) (.bool _))
theorem op_lt_int {i j : Int} : OpOk prog w n ex (compareOp .Lt) (.int i) (.int j) (.bool (decide (i < j))) := by
  intro A R s Q E u v T hu hv h; cases hu; cases hv; exact PyProof.Rows.lt_int (h _ _ (Grown.refl s) (.bool _))
theorem op_le_int {i j : Int} : OpOk prog w n ex (compareOp .LtE) (.int i) (.int j) (.bool (decide (i ≤ j))) := by
  intro A R s Q E u v T hu hv h; cases hu; cases hv; exact PyProof.Rows.le_int (h _ _ (Grown.refl s) (.bool _))
theorem op_gt_int {i j : Int} : OpOk prog w n ex (compareOp .Gt) (.int i) (.int j) (.bool (decide (j < i))) := by
  intro A R s Q E u v T hu hv h; cases hu; cases hv; exact PyProof.Rows.gt_int (h _ _ (Grown.refl s) (.bool _))
theorem op_iadd_int {i j : Int} : OpOk prog w n ex (inplaceOp .Add) (.int i) (.int j) (.int (i + j)) := by
  intro A R s Q E u v T hu hv h; cases hu; cases hv; exact wpAny_iadd_int (h _ _ (Grown.tok s _) (.int _ _))
theorem op_isub_int {i j : Int} : OpOk prog w n ex (inplaceOp .Sub) (.int i) (.int j) (.int (i - j)) := by
  intro A R s Q E u v T hu hv h; cases hu; cases hv; exact PyProof.Rows.isub_int (h _ _ (Grown.tok s _) (.int _ _))
theorem op_iadd_str {x y : Str} (hs : x.length + y.length ≤ sizeLine) : OpOk prog w n ex (inplaceOp .Add) (.str x) (.str y) (.str (x ++ y)) := by
  intro A R s Q E u v T hu hv h; cases hu; cases hv; exact PyProof.Rows.iadd_str (fun _ _ => h _ _ (Grown.tok s _) (.str _ _)) hs
theorem tru_bool {b : Bool} : TruOk prog w n ex (.bool b) b := by
  intro A R s Q E u T hu h; cases hu; exact wpAny_truthy_bool (h s (Grown.refl s))
theorem tru_int {i : Int} : TruOk prog w n ex (.int i) (i != 0) := by
  intro A R s Q E u T hu h; cases hu; exact PyProof.Rows.truthy_int (h s (Grown.refl s))
theorem tru_str {x : Str} (hx : x.length ≤ sizeLine) : TruOk prog w n ex (.str x) ((x.length : Int) != 0) := by
  intro A R s Q E u T hu h; cases hu
  exact PySem.P.truthy_str (by have := sizeLine_eq; omega) (h _ (Grown.tok s _))

/-! ### methods of a text -/
/-- the tree of a method call -/
def MethTree (env : Env) (o : Expr) (name : Str) (apos pos : Pos) (args : List Expr) (pl : Sem Bool) : Prop :=
  eval (.Call (.Attribute o name apos) args [] pos) env = (do
      let ov ← eval o env
      standAt apos.atName
      let (f, first) ← holding [ov] (getMethod ov name pl)
      callWith pos f first (backTo pos (starEach args env)) [])
theorem Ev.meth0 {o : Expr} {name : Str} {id : String} {apos pos : Pos} {x : Str} {r : AV} {pl : Sem Bool} (ho : Ev prog w K n env ex vs o (.str x))
    (hg : ∀ (A : Around) (E : Value → Shared → Prop) (s : Shared) (t : Tok) (Q : Value × List Value → Shared → Prop), Q (.builtin id, [.str x t]) s → wpAny (model prog w) A (getMethod (.str x t) name pl) Q E s)
    (hc : ∀ (A : Around), Room n A → ∀ (s : Shared) (t : Tok) (Q : Value → Shared → Prop) (E : Value → Shared → Prop), There ex s.heap → (∀ v s', Grown s s' → Val s'.heap ex v r → Q v s') → wpAny (model prog w) A (PySem.call (.builtin id) [.str x t]) Q E s)
    (he : MethTree env o name apos pos [] pl) : Ev prog w K n env ex vs (.Call (.Attribute o name apos) [] [] pos) r := by
  intro A R s Q E S h
  refine MethodCall_ (pl := pl) ?_ he
  refine ho A R s _ _ S fun v s₁ g₁ q₁ => ?_
  cases q₁
  refine @hg A E s₁ _ _ ?_
  refine callWith_method0 ?_
  exact hc A R s₁ _ Q E (S.up g₁).there fun v s₃ g₃ q₃ => h v s₃ (g₁.trans g₃) q₃
theorem Ev.meth1 {o e : Expr} {rest : List Expr} {name : Str} {id : String} {apos pos : Pos} {x : Str} {as : List AV} {r : AV} {pl : Sem Bool} (ho : Ev prog w K n env ex vs o (.str x))
    (hg : ∀ (A : Around) (E : Value → Shared → Prop) (s : Shared) (t : Tok) (Q : Value × List Value → Shared → Prop), Q (.builtin id, [.str x t]) s → wpAny (model prog w) A (getMethod (.str x t) name pl) Q E s)
    (ha : EvS prog w K n env ex vs (e :: rest) as)
    (hc : ∀ (A : Around), Room n A → ∀ (s : Shared) (t : Tok) (us : List Value) (Q : Value → Shared → Prop) (E : Value → Shared → Prop), There ex s.heap → Vals s.heap ex us as → (∀ v s', Grown s s' → Val s'.heap ex v r → Q v s') → wpAny (model prog w) A (PySem.call (.builtin id) (.str x t :: us)) Q E s)
    (he : MethTree env o name apos pos (e :: rest) pl)
    (h1 : starEach (e :: rest) env = (false, eval e env) :: starEach rest env := by rfl) (h2 : (backTo pos (starEach rest env)).any (·.1) = false := by rfl) :
    Ev prog w K n env ex vs (.Call (.Attribute o name apos) (e :: rest) [] pos) r := by
  intro A R s Q E S h
  refine MethodCall_ (pl := pl) ?_ he
  refine ho A R s _ _ S fun v s₁ g₁ q₁ => ?_
  cases q₁
  refine @hg A E s₁ _ _ ?_
  refine callWith_method1 (ha A R pos s₁ _ _ (S.up g₁) fun us s₂ g₂ q₂ => ?_) h1 h2
  exact hc A R s₂ _ us Q E ((S.up g₁).up g₂).there q₂ fun v s₃ g₃ q₃ => h v s₃ ((g₁.trans g₂).trans g₃) q₃

theorem Ev.lower {o : Expr} {apos pos : Pos} {x : Str} {pl : Sem Bool} (ho : Ev prog w K n env ex vs o (.str x)) (hx : x.length ≤ 5592405) (he : MethTree env o "lower" apos pos [] pl) : Ev prog w K n env ex vs (.Call (.Attribute o "lower" apos) [] [] pos) (.str (Txt.lower x)) :=
  Ev.meth0 ho (fun A E s t Q h => by with_reducible exact GM.lower h) (fun A R s t Q E T h => SCL.lower hx fun _ => h _ _ (Grown.tok s _) (.str _ _)) he
theorem Ev.upper {o : Expr} {apos pos : Pos} {x : Str} {pl : Sem Bool} (ho : Ev prog w K n env ex vs o (.str x)) (hx : x.length ≤ 5592405) (he : MethTree env o "upper" apos pos [] pl) : Ev prog w K n env ex vs (.Call (.Attribute o "upper" apos) [] [] pos) (.str (Txt.upper x)) :=
  Ev.meth0 ho (fun A E s t Q h => by with_reducible exact GM.upper h) (fun A R s t Q E T h => SCL.upper hx fun _ => h _ _ (Grown.tok s _) (.str _ _)) he
theorem Ev.startswith {o e : Expr} {apos pos : Pos} {x y : Str} {pl : Sem Bool} (ho : Ev prog w K n env ex vs o (.str x)) (hy : Ev prog w K n env ex vs e (.str y)) (he : MethTree env o "startswith" apos pos [e] pl) (h1 : starEach [e] env = (false, eval e env) :: starEach [] env := by rfl) : Ev prog w K n env ex vs (.Call (.Attribute o "startswith" apos) [e] [] pos) (.bool (Txt.startswith x y)) :=
  Ev.meth1 ho (fun A E s t Q h => by with_reducible exact GM.startswith h) (EvS.cons hy EvS.nil h1) (fun A R s t us Q E T q h => by cases q with | cons a b => cases a; cases b; exact SC.startswith (h _ _ (Grown.refl s) (.bool _))) he h1
theorem Ev.endswith {o e : Expr} {apos pos : Pos} {x y : Str} {pl : Sem Bool} (ho : Ev prog w K n env ex vs o (.str x)) (hy : Ev prog w K n env ex vs e (.str y)) (he : MethTree env o "endswith" apos pos [e] pl) (h1 : starEach [e] env = (false, eval e env) :: starEach [] env := by rfl) : Ev prog w K n env ex vs (.Call (.Attribute o "endswith" apos) [e] [] pos) (.bool (Txt.endswith x y)) :=
  Ev.meth1 ho (fun A E s t Q h => by with_reducible exact GM.endswith h) (EvS.cons hy EvS.nil h1) (fun A R s t us Q E T q h => by cases q with | cons a b => cases a; cases b; exact SC.endswith (h _ _ (Grown.refl s) (.bool _))) he h1
theorem Ev.rfind {o e : Expr} {apos pos : Pos} {x y : Str} {pl : Sem Bool} (ho : Ev prog w K n env ex vs o (.str x)) (hy : Ev prog w K n env ex vs e (.str y)) (he : MethTree env o "rfind" apos pos [e] pl) (h1 : starEach [e] env = (false, eval e env) :: starEach [] env := by rfl) : Ev prog w K n env ex vs (.Call (.Attribute o "rfind" apos) [e] [] pos) (.int (Txt.rfind x y)) :=
  Ev.meth1 ho (fun A E s t Q h => by with_reducible exact GM.rfind h) (EvS.cons hy EvS.nil h1) (fun A R s t us Q E T q h => by cases q with | cons a b => cases a; cases b; exact SC.rfind (h _ _ (Grown.tok s _) (.int _ _))) he h1
end
end Mine

end T_DE

section T_TSb
open PySem PySem.W PyProof.Rows PySem.Calls PySem.Spec
set_option linter.unusedVariables false
set_option maxRecDepth 100000
namespace Mine
local macro_rules | `(tactic| walk_at "d.mem") => `(tactic| first | (with_reducible exact List.mem_cons_self) | ((with_reducible refine' List.mem_cons_of_mem _ ?_); walk_at "d.mem"))
local macro_rules | `(tactic| walk_at "d.upd") => `(tactic| first | (with_reducible exact Upd.head) | ((with_reducible refine' Upd.tail ?hu); (case hu => walk_at "d.upd")))
local macro_rules | `(tactic| walk_at "d.meth") => `(tactic| (unfold MethTree; exact rfl))
local macro_rules | `(tactic| walk_at "d.kind") => `(tactic| (refine' Kinds.get (by assumption) ?_; kernel_rfl))
local macro_rules | `(tactic| walk_at "d.num") => `(tactic| first | assumption | decide | omega | (simp only [sizeLine_eq] at *; omega))
local macro_rules | `(tactic| walk_at "d.op") => `(tactic| first
  | (with_reducible exact op_add_int) | (with_reducible exact op_sub_int) | (with_reducible exact op_eq_str) | (with_reducible exact op_ne_str) | (with_reducible exact op_eq_int) | (with_reducible exact op_ne_int)
  | (with_reducible exact op_lt_int) | (with_reducible exact op_le_int) | (with_reducible exact op_gt_int) | (with_reducible exact op_iadd_int) | (with_reducible exact op_isub_int)
  | ((with_reducible refine' op_add_str ?_); walk_at "d.num") | ((with_reducible refine' op_mul_int ?_); mul_fits))
local macro_rules | `(tactic| walk_at "d.tru") => `(tactic| first | (with_reducible exact tru_bool) | (with_reducible exact tru_none) | (with_reducible exact tru_int) | ((with_reducible refine' tru_str ?_); walk_at "d.num"))
local macro_rules | `(tactic| walk_at "d.ev") => `(tactic| first
  | (with_reducible exact Ev.cint) | (with_reducible exact Ev.cstr) | (with_reducible exact Ev.cbool) | (with_reducible exact Ev.cnone)
  | ((with_reducible refine' Ev.name ?hm ?hd); (case hd => decide); (case hm => walk_at "d.mem"))
  | ((with_reducible refine' Ev.op ?ha ?hb ?ho); (case ha => walk_at "d.ev"); (case hb => walk_at "d.ev"); (case ho => walk_at "d.op"))
  | ((with_reducible refine' Ev.cmp ?ha ?hb ?ho ?hm); (case ha => walk_at "d.ev"); (case hb => walk_at "d.ev"); (case ho => walk_at "d.op"); (case hm => with_unfolding_all rfl))
  | ((with_reducible refine' Ev.lower ?ha ?hn ?hm); (case ha => walk_at "d.ev"); (case hn => walk_at "d.num"); (case hm => walk_at "d.meth"))
  | ((with_reducible refine' Ev.upper ?ha ?hn ?hm); (case ha => walk_at "d.ev"); (case hn => walk_at "d.num"); (case hm => walk_at "d.meth"))
  | ((with_reducible refine' Ev.isupper ?ha ?hm); (case ha => walk_at "d.ev"); (case hm => walk_at "d.meth"))
  | ((with_reducible refine' Ev.strSlice ?ha ?hl ?hu ?hn); (case ha => walk_at "d.ev"); (case hl => walk_at "d.part"); (case hu => walk_at "d.part"); (case hn => walk_at "d.num"))
  | ((with_reducible refine' Ev.itemL (EvL.name ?hm ?hd) ?hb ?h0 ?ha ?hn ?hs); (case hm => walk_at "d.mem"); (case hd => decide); (case hb => walk_at "d.ev"); (case h0 => walk_at "d.num"); (case ha => assumption); (case hn => walk_at "d.num"); (case hs => (intro _ _; with_unfolding_all rfl)))
  | ((with_reducible refine' Ev.strItem ?ha ?hb ?hn ?h1 ?h2 ?hs); (case ha => walk_at "d.ev"); (case hb => walk_at "d.ev"); (case hn => walk_at "d.num"); (case h1 => walk_at "d.num"); (case h2 => walk_at "d.num"); (case hs => (intro _ _; with_unfolding_all rfl)))
  | ((with_reducible refine' Ev.lenStr ?hn ?hk ?ha ?hb ?hs); (case hn => kernel_rfl); (case hk => walk_at "d.kind"); (case ha => walk_at "d.ev"); (case hb => walk_at "d.num"); (case hs => exact rfl))
  | ((with_reducible refine' Ev.min2 ?hn ?hk ?ha ?hb ?hs ?ht ?hu); (case hn => kernel_rfl); (case hk => walk_at "d.kind"); (case ha => walk_at "d.ev"); (case hb => walk_at "d.ev"); (case hs => exact rfl); (case ht => exact rfl); (case hu => exact rfl))
  | ((with_reducible refine' Ev.typeStr ?hn ?hk ?ha ?hs); (case hn => kernel_rfl); (case hk => walk_at "d.kind"); (case ha => walk_at "d.ev"); (case hs => exact rfl))
  | ((with_reducible refine' Ev.isSub ?hn ?hk ?ha ?hb ?hs ?ht ?hu); (case hn => kernel_rfl); (case hk => walk_at "d.kind"); (case ha => walk_at "d.ev"); (case hb => walk_at "d.ev"); (case hs => exact rfl); (case ht => exact rfl); (case hu => exact rfl))
  | ((with_reducible refine' Ev.notBytes ?hn ?hk ?ha ?hb ?hs ?ht ?hu); (case hn => kernel_rfl); (case hk => walk_at "d.kind"); (case ha => walk_at "d.ev"); (case hb => walk_at "d.ev"); (case hs => exact rfl); (case ht => exact rfl); (case hu => exact rfl))
  | ((with_reducible refine' Ev.startswith ?ha ?hb ?hm ?hs); (case ha => walk_at "d.ev"); (case hb => walk_at "d.ev"); (case hm => walk_at "d.meth"); (case hs => exact rfl))
  | ((with_reducible refine' Ev.endswith ?ha ?hb ?hm ?hs); (case ha => walk_at "d.ev"); (case hb => walk_at "d.ev"); (case hm => walk_at "d.meth"); (case hs => exact rfl))
  | ((with_reducible refine' Ev.rfind ?ha ?hb ?hm ?hs); (case ha => walk_at "d.ev"); (case hb => walk_at "d.ev"); (case hm => walk_at "d.meth"); (case hs => exact rfl))
  | ((with_reducible refine' Ev.neg ?ha); (case ha => walk_at "d.ev"))
  | ((with_reducible refine' Ev.tuple ?ha ?hn); (case ha => walk_at "d.evs"); (case hn => exact (by simp [sizeLine_eq])))
  | ((with_reducible refine' Ev.globalInt ?hn ?hk ?hd); (case hn => exact rfl); (case hk => walk_at "d.kind"); (case hd => decide))
  | ((with_reducible refine' Ev.builtin ?hn ?hv ?hk ?hm ?hd); (case hn => kernel_rfl); (case hv => walk_at "d.boot"); (case hk => walk_at "d.kind"); (case hm => decide); (case hd => decide)))
local macro_rules | `(tactic| walk_at "d.boot") => `(tactic| first | (with_reducible exact boot_str_) | (with_reducible exact boot_bytes_))
local macro_rules | `(tactic| walk_at "d.part") => `(tactic| first | (with_reducible exact EvP.nothing) | ((with_reducible refine' EvP.num ?ha); (case ha => walk_at "d.ev")) | ((with_reducible refine' EvP.nil ?ha); (case ha => walk_at "d.ev")))
local macro_rules | `(tactic| walk_at "d.evs") => `(tactic| first | (with_reducible exact EvS.nil) | ((with_reducible refine' EvS.cons ?ha ?hb ?hs); (case ha => walk_at "d.ev"); (case hb => walk_at "d.evs"); (case hs => exact rfl)))
local macro_rules | `(tactic| walk_at "d.te") => `(tactic| first
  | ((with_reducible refine' Te.cmp ?ha ?hb ?ho ?hm); (case ha => walk_at "d.ev"); (case hb => walk_at "d.ev"); (case ho => walk_at "d.op"); (case hm => with_unfolding_all rfl))
  | ((with_reducible refine' Te.not ?ha); walk_at "d.te")
  | ((with_reducible refine' Te.plain ?ha ?hb ?hc); (case ha => walk_at "d.ev"); (case hb => walk_at "d.tru"); (case hc => exact rfl)))
local macro_rules | `(tactic| walk_at "d.ret") => `(tactic| (refine' Ex.ret ?e ?_; (case e => walk_at "d.ev"); exact fun h v S q => ⟨S.keep, q.flat (by constructor)⟩))
local macro_rules | `(tactic| walk_at "d.asg") => `(tactic| (refine' Ex.assign ?e ?u ?_ ?hs; (case e => walk_at "d.ev"); (case u => walk_at "d.upd"); (case hs => exact rfl)))
local macro_rules | `(tactic| walk_at "d.aug") => `(tactic| (refine' Ex.augm ?m ?e ?o ?u ?_; (case m => walk_at "d.mem"); (case e => walk_at "d.ev"); (case o => walk_at "d.op"); (case u => walk_at "d.upd")))
local macro_rules | `(tactic| walk_at "d.fgt") => `(tactic| first | (with_reducible exact Fgt.nil) | ((with_reducible refine' Fgt.same ?hu); (case hu => walk_at "d.fgt")) | ((with_reducible refine' Fgt.free ?hu); (case hu => walk_at "d.fgt")))
local macro_rules | `(tactic| walk_at "d.range1") => `(tactic| ((with_reducible refine' EvR.of1 ?hn ?hk ?ha ?hs); (case hn => kernel_rfl); (case hk => walk_at "d.kind"); (case ha => walk_at "d.ev"); (case hs => exact rfl)))
abbrev PG : Program := Challenge.rw_pd0081_02.row.prog
noncomputable abbrev KK (w : World) : Frag := hd.heap_39 w.params

def subCost (a b : Str) : Int := if a == b then 0 else if Txt.lower a == Txt.lower b then 1 else 2


theorem sub_ok (w : World) (a b : Str) (ha : a.length ≤ 1000) (hb : b.length ≤ 1000) : CallP PG w (KK w) 1 28 [.str a, .str b] (.int (subCost a b)) := by
  refine CallP.def (ps := ["ch_a", "ch_b"]) (ls := []) (fun _ => No) rfl rfl (by kernel_rfl) rfl rfl (by kernel_rfl) rfl rfl rfl (by decide +kernel) (by kernel_rfl) rfl (fun us h => match us, h with | [u, v], _ => rfl) (fun _ _ h => h) (fun _ _ h => h.elim) ?_
  intro env h₀ hk hc B
  refine Ex.pre (S := StS (KK w) env h₀ No [("ch_a", .val (.str a)), ("ch_b", .val (.str b))]) ?_ (fun h q => q)
  cases hab : (a == b) with
  | true =>
    refine' Ex.ite_tt (Te.to ?t1 hab) ?_
    case t1 => walk_at "d.te"
    rw [show subCost a b = 0 by simp [subCost, hab]]
    walk_at "d.ret"
  | false =>
    refine' Ex.ite_ff (Te.to ?t1 hab) ?_
    case t1 => walk_at "d.te"
    cases hl : (Txt.lower a == Txt.lower b) with
    | true =>
      refine' Ex.ite_tt (Te.to ?t1 hl) ?_
      case t1 => walk_at "d.te"
      rw [show subCost a b = 1 by simp [subCost, hab, hl]]
      walk_at "d.ret"
    | false =>
      refine' Ex.ite_ff (Te.to ?t1 hl) ?_
      case t1 => walk_at "d.te"
      rw [show subCost a b = 2 by simp [subCost, hab, hl]]
      walk_at "d.ret"
end Mine

end T_TSb

section T_DF
open PySem PySem.W PyProof.Rows PySem.Calls PySem.Spec
set_option linter.unusedVariables false
set_option linter.unusedSimpArgs false
namespace Mine
section
variable (prog : Program) (w : World) (K : Frag)
/-- a bound of a slice -/
def EvP (n : Nat) (env : Env) (ex : Addr → Prop) (vs : Vars) (e : Option Expr) (i : Option Int) : Prop :=
  ∀ (A : Around), Room n A → ∀ (s : Shared) (Q : Value → Shared → Prop) (E : Value → Shared → Prop), StE K env ex vs s.heap →
    (∀ v s', Grown s s' → IsPart v i → Q v s') → wpAny (model prog w) A (evalPart e env) Q E s
end
section
variable {prog : Program} {w : World} {K : Frag} {n : Nat} {env : Env} {ex : Addr → Prop} {vs : Vars}
theorem EvP.nothing : EvP prog w K n env ex vs none none := fun A R s Q E S h => by rw [evalPart_none]; exact wpAny_pure (h _ s (Grown.refl s) .none)
theorem EvP.num {e : Expr} {i : Int} (he : Ev prog w K n env ex vs e (.int i)) : EvP prog w K n env ex vs (some e) (some i) := fun A R s Q E S h => by
  rw [evalPart_some]
  exact he A R s Q E S fun v s' g q => by cases q; exact h _ s' g (.int _ _)
theorem EvP.nil {e : Expr} (he : Ev prog w K n env ex vs e .none) : EvP prog w K n env ex vs (some e) none := fun A R s Q E S h => by
  rw [evalPart_some]
  exact he A R s Q E S fun v s' g q => by cases q; exact h _ s' g .none
theorem Ev.strItem {v sl : Expr} {p : Pos} {x : Str} {i : Int} (hv : Ev prog w K n env ex vs v (.str x)) (hi : Ev prog w K n env ex vs sl (.int i)) (hx : x.length ≤ sizeLine) (h1 : -(x.length : Int) ≤ i) (h2 : i < x.length)
    (hs : ∀ t u, subscripted sl false (.str x t) (.int i u) = operate [.str x t, .int i u] (getItem (.str x t) (.int i u)) := by intro _ _; with_unfolding_all rfl) : Ev prog w K n env ex vs (.Subscript v sl p) (.str (Txt.item x i)) := by
  intro A R s Q E S h
  refine Subscript_ (hv A R s _ _ S fun u s₁ g₁ q₁ => hi A R s₁ _ _ (S.up g₁) fun k s₂ g₂ q₂ => ?_)
  cases q₁ with
  | str _ t1 =>
  cases q₂ with
  | int _ t2 =>
  have hb := sizeLine_eq
  have hfit : PySem.fitsSsize i = true := by unfold PySem.fitsSsize; simp; omega
  obtain ⟨T, id, hl, hT, hg⟩ := SB.item (prog := prog) (w := w) (A := A) (E := E) (Q := Q) (s := s₂) (t := t1) (u := t2) hfit (charAt_isSome h1 h2) (h _ _ ((g₁.trans g₂).trans (Grown.tok _ _)) (.str _ _))
  exact tail_any hT hl hg (hs _ _)

theorem part_value {v : Value} {i : Option Int} (h : IsPart v i) : ∃ l : Option (Int × Tok), v = partValue l ∧ l.map (·.1) = i := by
  cases h with
  | none => exact ⟨none, rfl, rfl⟩
  | int i t => exact ⟨some (i, t), rfl, rfl⟩
theorem Ev.strSlice {v : Expr} {lo hi : Option Expr} {p p' : Pos} {x : Str} {l u : Option Int} (hv : Ev prog w K n env ex vs v (.str x)) (hl : EvP prog w K n env ex vs lo l) (hu : EvP prog w K n env ex vs hi u) (hx : x.length ≤ sizeLine) :
    Ev prog w K n env ex vs (.Subscript v (.Slice lo hi none p') p) (.str (Txt.slice x l u)) := by
  intro A R s Q E S h
  refine Subscript_ (hv A R s _ _ S fun o s₁ g₁ q₁ => wpAny_Slice (hl A R s₁ _ _ (S.up g₁) fun vl s₂ g₂ q₂ => hu A R s₂ _ _ ((S.up g₁).up g₂) fun vu s₃ g₃ q₃ => ?_))
  cases q₁
  obtain ⟨l', rfl, rfl⟩ := part_value q₂
  obtain ⟨u', rfl, rfl⟩ := part_value q₃
  rw [evalPart_none]
  refine wpAny_pure (tail_any (typeIs_str _ _ _) F.slot_str_getitem.lookup (wpAny_getItem_str_slice (l := l') (u := u') (st := none) ⟨_, Heap.get?_push_size _ rfl, rfl, rfl⟩ rfl ?_) (ops := [.ref s₃.heap.objs.size, .str x _]) rfl)
  refine post_val_or_str ⟨Nat.le_trans (Txt.slice_le x _ _) hx, fun t' k => h _ _ ?_ (.str _ _)⟩
  exact ((g₁.trans g₂).trans g₃).trans (Grown.push _ _ _)

/-! ### built-in functions -/
theorem Ev.bcall {x : Str} {id : String} {p pos : Pos} {e : Expr} {rest : List Expr} {as : List AV} {r : AV} (hn : nsIn K mainGlobals x = some none) (hv : bootBuiltins x = some (.builtin id)) (hx : env.kindOf x = some .globalImplicit)
    (ha : EvS prog w K n env ex vs (e :: rest) as)
    (hc : ∀ (A : Around), Room n A → ∀ (s : Shared) (us : List Value) (Q : Value → Shared → Prop) (E : Value → Shared → Prop), There ex s.heap → Vals s.heap ex us as → (∀ v s', Grown s s' → Val s'.heap ex v r → Q v s') → wpAny (model prog w) A (PySem.call (.builtin id) us) Q E s)
    (h1 : starEach (e :: rest) env = (false, eval e env) :: starEach rest env) (h2 : (backTo pos (starEach rest env)).any (·.1) = false) (hn' : x ≠ "__name__" := by decide) (hdd : (x == ("__debug__" : Str)) = false := by decide) :
    Ev prog w K n env ex vs (.Call (.Name x p) (e :: rest) [] pos) r := by
  intro A R s Q E S h
  rw [eval_Call_Name]
  refine wpAny_bind (Ev.builtin (prog := prog) (w := w) (n := n) hn hv hx hn' hdd A R s _ _ S fun v s₁ g₁ q₁ => ?_)
  cases q₁
  refine callWith_method1 (first := []) (ha A R pos s₁ _ _ (S.up g₁) fun us s₂ g₂ q₂ => ?_) h1 h2
  exact hc A R s₂ us Q E ((S.up g₁).up g₂).there q₂ fun v s₃ g₃ q₃ => h v s₃ ((g₁.trans g₂).trans g₃) q₃
theorem Ev.lenStr {p pos : Pos} {e : Expr} {y : Str} (hn : nsIn K mainGlobals "len" = some none) (hx : env.kindOf "len" = some .globalImplicit) (he : Ev prog w K n env ex vs e (.str y)) (hy : y.length ≤ sizeLine) (h1 : starEach [e] env = (false, eval e env) :: starEach [] env) :
    Ev prog w K n env ex vs (.Call (.Name "len" p) [e] [] pos) (.int y.length) :=
  Ev.bcall hn boot_len hx (EvS.cons he EvS.nil h1) (fun A R s us Q E T q h => by
    cases q with | cons a b => cases a; cases b; exact PyProof.Rows.len_str (by have := sizeLine_eq; omega) (h _ _ (Grown.tok s _) (.int _ _))) h1 rfl
/-- one argument that is a list, an own one or not -/
theorem Ev.bcallL {x : Str} {id : String} {p pos : Pos} {e : Expr} {ys : List AV} {r : AV} (hn : nsIn K mainGlobals x = some none) (hv : bootBuiltins x = some (.builtin id)) (hx : env.kindOf x = some .globalImplicit)
    (ha : EvL prog w K n env ex vs e ys)
    (hc : ∀ (A : Around), Room n A → ∀ (s : Shared) (l : Addr) (us : List Value) (Q : Value → Shared → Prop) (E : Value → Shared → Prop), There ex s.heap → s.heap.IsList l us.toArray → Vals s.heap ex us ys → (∀ v s', Grown s s' → Val s'.heap ex v r → Q v s') → wpAny (model prog w) A (PySem.call (.builtin id) [.ref l]) Q E s)
    (h1 : starEach [e] env = (false, eval e env) :: starEach [] env) (hn' : x ≠ "__name__" := by decide) (hdd : (x == ("__debug__" : Str)) = false := by decide) :
    Ev prog w K n env ex vs (.Call (.Name x p) [e] [] pos) r := by
  intro A R s Q E S h
  rw [eval_Call_Name]
  refine wpAny_bind (Ev.builtin (prog := prog) (w := w) (n := n) hn hv hx hn' hdd A R s _ _ S fun v s₁ g₁ q₁ => ?_)
  cases q₁
  refine callWith_method1 (first := []) (wpAny_items_cons (ha A R s₁ _ _ (S.up g₁) fun l us s₂ g₂ il q₂ => wpAny_items_nil ?_) h1) h1 rfl
  exact hc A R s₂ l us Q E ((S.up g₁).up g₂).there il q₂ fun v s₃ g₃ q₃ => h v s₃ ((g₁.trans g₂).trans g₃) q₃
theorem Ev.min2 {p pos : Pos} {e f : Expr} {i j : Int} (hn : nsIn K mainGlobals "min" = some none) (hx : env.kindOf "min" = some .globalImplicit) (he : Ev prog w K n env ex vs e (.int i)) (hf : Ev prog w K n env ex vs f (.int j))
    (h1 : starEach [e, f] env = (false, eval e env) :: starEach [f] env) (h2 : starEach [f] env = (false, eval f env) :: starEach [] env) (h3 : (backTo pos (starEach [f] env)).any (·.1) = false := by rfl) : Ev prog w K n env ex vs (.Call (.Name "min" p) [e, f] [] pos) (.int (min i j)) :=
  Ev.bcall hn (by decide +kernel : bootBuiltins "min" = some (.builtin "min")) hx (EvS.cons he (EvS.cons hf EvS.nil h2) h1) (fun A R s us Q E T q h => by
    cases q with
    | cons a b =>
      cases a
      cases b with
      | cons c d =>
        cases c; cases d
        refine min_two_ints R.1 fun h' tk k => ?_
        by_cases hji : j < i
        · rw [if_pos hji]; exact h _ _ (Grown.of k) (by rw [show min i j = j by omega]; exact .int _ _)
        · rw [if_neg hji]; exact h _ _ (Grown.of k) (by rw [show min i j = i by omega]; exact .int _ _)) h1 h3
end
end Mine

end T_DF

section T_DG
open PySem PySem.W PyProof.Rows PySem.Calls PySem.Spec
set_option linter.unusedVariables false
set_option linter.unusedSimpArgs false
namespace Mine
theorem Vals.of_get {h : Heap} {ex : Addr → Prop} : ∀ {vs : List Value} {as : List AV}, vs.length = as.length → (∀ (i : Nat) v, vs[i]? = some v → ∃ a, as[i]? = some a ∧ Val h ex v a) → Vals h ex vs as
  | [], [], _, _ => .nil
  | [], _ :: _, e, _ => by simp at e
  | _ :: _, [], e, _ => by simp at e
  | v :: vs, a :: as, e, q => by
    obtain ⟨a', h1, h2⟩ := q 0 v rfl
    simp at h1; subst h1
    exact .cons h2 (Vals.of_get (by simpa using e) fun i u hu => by simpa using q (i + 1) u (by simpa using hu))
def Add (ex : Addr → Prop) (l : Addr) : Addr → Prop := fun b => ex b ∨ b = l
section
variable {K : Frag} {env : Env} {h₀ : Heap} {ex : Addr → Prop} {vs vs' : Vars} {h h' : Heap}

/-- a list of the frame's own is changed -/
theorem StS.mut (S : StS K env h₀ ex vs h) {x : Str} {l : Addr} {pp pp' : Bool} {xs xs' : List AV} {us' : List Value} (hm : (x, Slot.own l pp xs) ∈ vs) (hs : Heap.SameBut l h h') (il : ListAt h' l pp' us') (q : Vals h ex us' xs') (u : Upd x (.own l pp' xs') vs vs') :
    StS K env h₀ ex vs' h' ∧ Kept env ex h h' := by
  obtain ⟨gx, hex, us, ilo, _⟩ := S.e.holds _ hm
  obtain ⟨ol, hol, _, ⟨nl, hdl⟩, _⟩ := id ilo
  have hl0 := S.newO x l pp xs hm
  have kk : Kept env ex h h' := fun b o _ _ hb e => (hs.2 b (fun q => hb (q ▸ hex))).trans e
  have sk : SeqKept ex h h' := fun b o items n hb e _ => (hs.2 b (fun q => hb (q ▸ hex))).trans e
  have nL := (S.seqNe hol hdl).1
  have nC := (S.seqNe hol hdl).2
  have gg : ∀ {y : Str} {v : Value}, Get env h y v → Get env h' y v := by
    intro y v g
    cases g with
    | loc m a b c => exact .loc m a (b.sameBut hs (Ne.symm nL)) c
    | cel c a b d => exact .cel c a b (d.sameBut hs (Ne.symm (nC y c b)))
  have hk0 : Ext h₀ h' := fun b o e => (hs.2 b (fun q => by rw [q, hl0] at e; cases e)).trans (S.keep b o e)
  refine ⟨⟨⟨S.e.fn, S.e.gl, S.e.bl, S.base0.up hk0, ?_, ?_⟩, S.base0, ?_, hk0, S.newL, ?_, ?_, ?_, S.celld, by rw [u.names]; exact S.names, ?_⟩, kk⟩
  · intro b hb
    by_cases e : b = l
    · obtain ⟨o, ho, _⟩ := il; exact ⟨o, e ▸ ho⟩
    · obtain ⟨o, ho⟩ := S.e.there b hb; exact ⟨o, (hs.2 b e).trans ho⟩
  · intro p hp
    rcases u.mem S.names p hp with e | ⟨hp', hne⟩
    · subst e; exact ⟨gg gx, hex, us', il, q.moves sk fun _ _ n _ => n⟩
    · have old := S.e.holds p hp'
      obtain ⟨y, sl⟩ := p
      cases sl with
      | free => trivial
      | val a => obtain ⟨v, g, q⟩ := old; exact ⟨v, gg g, q.moves sk fun _ _ n _ => n⟩
      | own l' p' ys =>
        obtain ⟨g, e, us, il', r⟩ := old
        refine ⟨gg g, e, us, il'.goes fun o' e' => (hs.2 l' fun q => hne ?_).trans e', r.moves sk fun _ _ n _ => n⟩
        exact S.ownd y x l' p' pp ys xs hp' (q ▸ hm)
  · obtain ⟨m, q⟩ := S.ns; exact ⟨m, q.sameBut hs (Ne.symm nL)⟩
  · intro y l' p' ys hp
    rcases u.mem S.names _ hp with e | e
    · cases e; exact hl0
    · exact S.newO y l' p' ys e.1
  · intro y z l' p' q' ys zs hy hz
    rcases u.mem S.names _ hy with e | e <;> rcases u.mem S.names _ hz with e' | e'
    · cases e; cases e'; rfl
    · cases e; exact S.ownd x z l pp q' xs zs hm e'.1
    · cases e'; exact S.ownd y x l p' pp ys xs e.1 hm
    · exact S.ownd y z l' p' q' ys zs e.1 e'.1
  · intro y c hc
    obtain ⟨a, v, q⟩ := S.cells y c hc
    exact ⟨a, v, q.sameBut hs (Ne.symm (nC y c hc))⟩
  · intro p hp
    have : p.1 ∈ vs.map (·.1) := u.names ▸ List.mem_map.mpr ⟨p, hp, rfl⟩
    obtain ⟨q, hq, e⟩ := List.mem_map.mp this
    exact e ▸ S.kinds q hq

/-- a new list becomes the frame's own -/
theorem StS.addOwn (S : StS K env h₀ ex vs h) {l : Addr} {o : Obj} (k : Ext h h') (hl : h.get? l = none) (ho : h'.get? l = some o) : StS K env h₀ (Add ex l) vs h' := by
  have ke : ∀ b o, ¬ ex b → h.get? b = some o → ¬ Add ex l b := fun b o hb e q => q.elim hb fun q => by rw [q, hl] at e; cases e
  have S' := S.up k
  refine ⟨⟨S.e.fn, S.e.gl, S.e.bl, S'.e.base, ?_, ?_⟩, S.base0, S'.ns, S'.keep, S.newL, S.newO, S.ownd, S'.cells, S.celld, S.names, S.kinds⟩
  · intro b hb
    rcases hb with hb | hb
    · exact S'.e.there b hb
    · subst hb; exact ⟨o, ho⟩
  · intro p hp
    have old := S.e.holds p hp
    obtain ⟨y, sl⟩ := p
    cases sl with
    | free => trivial
    | val a => obtain ⟨v, g, q⟩ := old; exact ⟨v, g.up k, q.moves (Ext.seq k) ke⟩
    | own l' p' ys => obtain ⟨g, e, us, il', r⟩ := old; exact ⟨g.up k, .inl e, us, il'.goes fun o' e' => k _ o' e', r.moves (Ext.seq k) ke⟩
end

section
variable (prog : Program) (w : World) (K : Frag)
/-- an expression that makes a new list -/
def EvN (n : Nat) (env : Env) (ex : Addr → Prop) (vs : Vars) (e : Expr) (xs : List AV) : Prop :=
  ∀ (A : Around), Room n A → ∀ (s : Shared) (Q : Value → Shared → Prop) (E : Value → Shared → Prop), StE K env ex vs s.heap →
    (∀ l us s', Grown s s' → s.heap.get? l = none → ListAt s'.heap l true us → Vals s'.heap (Add ex l) us xs → Q (.ref l) s') → wpAny (model prog w) A (eval e env) Q E s
end

section
variable {prog : Program} {w : World} {K : Frag} {n : Nat} {env : Env} {h₀ : Heap} {ex : Addr → Prop} {vs vs' : Vars} {S S' : Heap → Prop} {Q : Flow → Heap → Prop} {rest : List Stmt}

theorem Ev.ofN {e : Expr} {xs : List AV} (he : EvN prog w K n env ex vs e xs) : Ev prog w K n env ex vs e (.list xs) := by
  intro A R s Q E S h
  refine he A R s Q E S fun l us s' g hl il q => h _ s' g (.list ?_ il.isList (q.weak fun _ x => .inl x))
  intro hx
  obtain ⟨o, e⟩ := S.there _ hx
  rw [hl] at e; cases e

theorem Ex.own {pp : Bool} {x : Str} {p' pos : Pos} {e : Expr} {xs : List AV} {vs' : Addr → Vars} (he : EvN prog w K n env ex vs e xs) (u : ∀ l, Upd x (.own l pp xs) vs (vs' l))
    (hr : ∀ l, Ex prog w n env (Add ex l) (StS K env h₀ (Add ex l) (vs' l)) rest Q)
    (hs : swapsWith e (some (.Name x p')) pos.line env = pure false := by rfl) : Ex prog w n env ex (StS K env h₀ ex vs) (.Assign [.Name x p'] e pos :: rest) Q := by
  intro A R s E hS
  refine wpAny_execs_cons (wpAny_Assign_Name (he A R s _ _ hS.e fun l us s₁ g hl il q => ?_) hs)
  obtain ⟨⟨h₁, tk₁, rfl⟩, k₁⟩ := g
  obtain ⟨ol, hol, _⟩ := id il
  have S₁ := hS.addOwn (h' := h₁) k₁ hl hol
  have hl0 : h₀.get? l = none := by
    cases e : h₀.get? l with
    | none => rfl
    | some o => have := hS.keep _ _ e; rw [hl] at this; cases this
  refine store_slot (K := K) (h₀ := h₀) (s := { s with heap := h₁, toks := tk₁ }) S₁ (u l) (fun h' g' k il' => ⟨g', .inr rfl, us, il' _ _ _ il.any, q.moves k fun _ _ n _ => n⟩) (fun l' p' ys e => ?_) fun h' tk S' k => ?_
  · cases e
    refine ⟨hl0, fun y q' ys hp => ?_⟩
    obtain ⟨_, _, us', ⟨o', ho', _⟩, _⟩ := hS.e.holds _ hp
    rw [hl] at ho'; cases ho'
  · refine wpAny_mono (hr l A R _ E S') (fun f s' ⟨⟨h'', tk', e'⟩, k', q'⟩ => ⟨⟨h'', tk', by rw [e']⟩, ?_, q'⟩) fun _ _ x => x
    intro b o h1 h2 h3 eb
    have hb : ¬ Add ex l b := fun q => q.elim h3 fun q => by rw [q, hl] at eb; cases eb
    exact k' b o h1 h2 hb (k b o h1 h2 hb (k₁ b o eb))

/-- x[i] = e, x a list of the frame's own -/
theorem Ex.setItem {x : Str} {px p' pos : Pos} {e i : Expr} {l : Addr} {pp : Bool} {xs : List AV} {a : AV} {k : Int} (hm : (x, Slot.own l pp xs) ∈ vs) (he : Ev prog w K n env ex vs e a) (hi : Ev prog w K n env ex vs i (.int k)) (h0 : 0 ≤ k) (hk : k < xs.length) (hsz : xs.length ≤ sizeLine)
    (u : Upd x (.own l false (xs.set k.toNat a)) vs vs') (hr : Ex prog w n env ex (StS K env h₀ ex vs') rest Q)
    (hs : swapsWith e (some (.Subscript (.Name x px) i p')) pos.line env = pure false := by rfl) (hd : (x == ("__debug__" : Str)) = false := by decide) :
    Ex prog w n env ex (StS K env h₀ ex vs) (.Assign [.Subscript (.Name x px) i p'] e pos :: rest) Q := by
  intro A R s E hS
  refine wpAny_execs_cons (wpAny_Assign_Subscript (he A R s _ _ hS.e fun v s₁ g₁ q₁ => ?_) hs)
  have S₁ := hS.grow g₁
  obtain ⟨gx, hex, us, il, qs⟩ := S₁.e.holds _ hm
  refine wpAny_Name (load_name S₁.e gx (hi A R s₁ _ _ S₁.e fun iv s₂ g₂ q₂ => ?_)) hd
  cases q₂ with
  | int _ tk' =>
  have S₂ := S₁.grow g₂
  have il₂ : s₂.heap.IsList l us.toArray := IsList.goes il.isList fun o e => g₂.ext _ o e
  have qs₂ := qs.up g₂.ext
  have hl := qs.length
  have hb := sizeLine_eq
  refine wpAny_setItem_list il₂ h0 (by omega) (by rw [List.size_toArray]; omega) fun h' il' hsb => ?_
  have e1 : us.toArray.setIfInBounds k.toNat v = (us.set k.toNat v).toArray := by simp
  rw [e1] at il'
  obtain ⟨S₃, k₃⟩ := S₂.mut hm hsb (ListAt.of il') (qs₂.set k.toNat (q₁.up g₂.ext)) u
  have g := g₁.trans g₂
  obtain ⟨⟨h₂, tk₂, rfl⟩, k₂⟩ := g
  exact ex_then (tk := tk₂) R hr S₃ ((Kept.of_ext k₂).trans k₃)

/-- items of a list -/
theorem Ev.itemL {v sl : Expr} {p : Pos} {xs : List AV} {i : Int} {a : AV} (hv : EvL prog w K n env ex vs v xs) (hi : Ev prog w K n env ex vs sl (.int i)) (h0 : 0 ≤ i) (ha : xs[i.toNat]? = some a) (hsz : xs.length ≤ sizeLine)
    (hs : ∀ l u, subscripted sl false (.ref l) (.int i u) = operate [.ref l, .int i u] (getItem (.ref l) (.int i u)) := by intro _ _; with_unfolding_all rfl) : Ev prog w K n env ex vs (.Subscript v sl p) a := by
  intro A R s Q E S h
  refine Subscript_ (hv A R s _ _ S fun l us s₁ g₁ il q₁ => hi A R s₁ _ _ (S.up g₁) fun k s₂ g₂ q₂ => ?_)
  cases q₂ with
  | int _ t2 =>
  have il₂ : s₂.heap.IsList l us.toArray := IsList.goes il fun o e => g₂.ext _ o e
  obtain ⟨u, hu, hq⟩ := (q₁.up g₂.ext).get ha
  have hb := sizeLine_eq
  have hlt : i.toNat < xs.length := (List.getElem?_eq_some_iff.mp ha).1
  exact tail_any il₂.typeIs list_getitem_lookup (wpAny_getItem_list il₂ h0 (by omega) (by simpa using hu) (h _ _ (g₁.trans g₂) hq)) (hs _ _)
theorem Ev.itemLneg {v sl : Expr} {p : Pos} {xs : List AV} {i : Int} {a : AV} (hv : EvL prog w K n env ex vs v xs) (hi : Ev prog w K n env ex vs sl (.int i)) (h0 : i < 0) (h1 : -(xs.length : Int) ≤ i) (ha : xs[(i + xs.length).toNat]? = some a) (hsz : xs.length ≤ sizeLine)
    (hs : ∀ l u, subscripted sl false (.ref l) (.int i u) = operate [.ref l, .int i u] (getItem (.ref l) (.int i u)) := by intro _ _; with_unfolding_all rfl) : Ev prog w K n env ex vs (.Subscript v sl p) a := by
  intro A R s Q E S h
  refine Subscript_ (hv A R s _ _ S fun l us s₁ g₁ il q₁ => hi A R s₁ _ _ (S.up g₁) fun k s₂ g₂ q₂ => ?_)
  cases q₂ with
  | int _ t2 =>
  have il₂ : s₂.heap.IsList l us.toArray := IsList.goes il fun o e => g₂.ext _ o e
  obtain ⟨u, hu, hq⟩ := (q₁.up g₂.ext).get ha
  have hb := sizeLine_eq
  have hl := q₁.length
  refine tail_any il₂.typeIs list_getitem_lookup (wpAny_getItem_list_neg il₂ h0 (by rw [List.size_toArray]; omega) (by omega) ?_ (h _ _ (g₁.trans g₂) hq)) (hs _ _)
  rw [List.size_toArray, hl]
  simpa using hu

/-! ### ranges -/
theorem EvR.of1 {p pos : Pos} {e : Expr} {i : Int} (hn : nsIn K mainGlobals "range" = some none) (hx : env.kindOf "range" = some .globalImplicit) (he : Ev prog w K n env ex vs e (.int i)) (h1 : starEach [e] env = (false, eval e env) :: starEach [] env) :
    EvR prog w K n env ex vs (.Call (.Name "range" p) [e] [] pos) 0 i 1 := by
  intro A R s Q E S h
  rw [eval_Call_Name]
  refine wpAny_bind (Ev.builtin (prog := prog) (w := w) (n := n) hn (by decide +kernel : bootBuiltins "range" = some (.type "range")) hx (by decide) (by decide) A R s _ _ S fun v s₁ g₁ q₁ => ?_)
  cases q₁
  refine PyProof.Rows.callWith_type1 (wpAny_items_cons (he A R s₁ _ _ (S.up g₁) fun v s₂ g₂ q₂ => wpAny_items_nil ?_) h1) h1 rfl
  cases q₂
  exact call_range_1 (h _ _ _ _ _ ((g₁.trans g₂).trans (Grown.push _ _ _)) (IsRange.new ..))
theorem EvR.of3 {p pos : Pos} {e f g : Expr} {i j k : Int} (hn : nsIn K mainGlobals "range" = some none) (hx : env.kindOf "range" = some .globalImplicit) (he : Ev prog w K n env ex vs e (.int i)) (hf : Ev prog w K n env ex vs f (.int j)) (hg : Ev prog w K n env ex vs g (.int k)) (hk : k ≠ 0)
    (hp : Builtin.divisionGoesByPylong (j - i) k = false)
    (h1 : starEach [e, f, g] env = (false, eval e env) :: starEach [f, g] env) (h2 : starEach [f, g] env = (false, eval f env) :: starEach [g] env) (h3 : starEach [g] env = (false, eval g env) :: starEach [] env) (h4 : (backTo pos (starEach [f, g] env)).any (·.1) = false := by rfl) :
    EvR prog w K n env ex vs (.Call (.Name "range" p) [e, f, g] [] pos) i j k := by
  intro A R s Q E S h
  rw [eval_Call_Name]
  refine wpAny_bind (Ev.builtin (prog := prog) (w := w) (n := n) hn (by decide +kernel : bootBuiltins "range" = some (.type "range")) hx (by decide) (by decide) A R s _ _ S fun v s₁ g₁ q₁ => ?_)
  cases q₁
  refine PyProof.Rows.callWith_type1 (EvS.cons he (EvS.cons hf (EvS.cons hg EvS.nil h3) h2) h1 A R pos s₁ _ _ (S.up g₁) fun us s₂ g₂ q₂ => ?_) h1 h4
  cases q₂ with
  | cons a b =>
    cases a
    cases b with
    | cons c d =>
      cases c
      cases d with
      | cons c' d' =>
        cases c'; cases d'
        exact call_range_3 hk (h _ _ _ _ _ ((g₁.trans g₂).trans (Grown.push _ _ _)) (IsRange.new ..)) (.inl hp)
/-- list(range(..)) -/
theorem EvN.listRange {p pos : Pos} {e : Expr} {a b c : Int} {len : Nat} (hn : nsIn K mainGlobals "list" = some none) (hx : env.kindOf "list" = some .globalImplicit) (he : EvR prog w K n env ex vs e a b c)
    (hsmall : Builtin.Range.small a b c = true) (hlen : Builtin.Range.rangeSize a b c = (len : Int)) (hl : len ≤ 2 ^ 24) (h1 : starEach [e] env = (false, eval e env) :: starEach [] env) :
    EvN prog w K n env ex vs (.Call (.Name "list" p) [e] [] pos) ((List.range len).map fun (i : Nat) => AV.int (a + (i : Int) * c)) := by
  intro A R s Q E S h
  rw [eval_Call_Name]
  refine wpAny_bind (Ev.builtin (prog := prog) (w := w) (n := n) hn (by decide +kernel : bootBuiltins "list" = some (.type "list")) hx (by decide) (by decide) A R s _ _ S fun v s₁ g₁ q₁ => ?_)
  cases q₁
  refine PyProof.Rows.callWith_type1 (wpAny_items_cons (he A R s₁ _ _ (S.up g₁) fun r t u v s₂ g₂ q₂ => wpAny_items_nil ?_) h1) h1 rfl
  refine call_list_range R.1 q₂ hsmall hlen hl fun h' tk acc' c' k hS' hacc => ?_
  have g := (g₁.trans g₂).trans (Grown.of (s := s₂) (tk := tk) k)
  refine h _ acc'.toList _ g ?_ ⟨_, hS', rfl, ⟨c', by simp⟩, fun _ => ⟨rfl, rfl⟩⟩ ?_
  · cases e : s.heap.get? s₂.heap.objs.size with
    | none => rfl
    | some o => exact absurd (Heap.lt_size ((g₁.trans g₂).ext _ _ e)) (Nat.lt_irrefl _)
  · refine Vals.of_get (by simp [hacc.1]) fun i v hv => ?_
    have hv' : acc'[i]? = some v := by simpa using hv
    obtain ⟨t, rfl⟩ := hacc.2 i v hv'
    have hi : i < len := by have := (Array.getElem?_eq_some_iff.mp hv').1; have := hacc.1; omega
    exact ⟨_, by simp [hi], .int _ _⟩
end
end Mine

end T_DG

section T_DH
open PySem PySem.W PyProof.Rows PySem.Calls PySem.Spec
set_option linter.unusedVariables false
set_option linter.unusedSimpArgs false
namespace Mine

inductive Upds : List (Str × AV) → Vars → Vars → Prop
  | nil {vs : Vars} : Upds [] vs vs
  | cons {x : Str} {a : AV} {r : List (Str × AV)} {vs vs₁ vs₂ : Vars} : Upd x (.val a) vs vs₁ → Upds r vs₁ vs₂ → Upds ((x, a) :: r) vs vs₂

section
variable {prog : Program} {w : World} {K : Frag} {n : Nat} {env : Env} {h₀ : Heap} {ex : Addr → Prop} {vs vs' : Vars} {S S' : Heap → Prop} {Q : Flow → Heap → Prop} {rest : List Stmt}

theorem swapped_two {x y : Str} {px py tp vp : Pos} {k kk : Nat} {es : List Expr} (fn : env.scope.kind = .function) (hx : env.kindOf x = some .local) (hy : env.kindOf y = some .local) (hl : (py.line == px.line) = true) (hne : [x, y].eraseDups.length = 2)
    (hv : es.length = 2) (hst : (es.any fun | .Starred .. => true | _ => false) = false) (hf : es.all (foldedForSure 8) = false) (hc : es.all (constantsAlone 8) = false) :
    swappedStores [.Tuple [.Name x px, .Name y py] k tp] (.Tuple es kk vp) env = pure (some [x, y]) := by
  have hb : env.blockKind = .function := by unfold Env.blockKind; rw [fn]; rfl
  have h1 : (px.line == px.line) = true := by simp
  unfold swappedStores
  simp only [hv, hst, hf, hc, hb, hx, hy, List.length_cons, List.length_nil, List.head?_cons, Option.map_some, Option.getD_some, Expr.pos, List.filterMap_cons, List.filterMap_nil, hl, h1, hne, beq_self_eq_true, Bool.and_self, if_true, bne_self_eq_false, Bool.or_self, Bool.not_true, Bool.false_eq_true, if_false, Nat.reduceAdd, Nat.reduceBEq, Bool.or_false, Bool.not_false, Bool.true_or]
  simp
  intro e he hm
  have := List.any_eq_false.mp hst e he
  cases e <;> simp_all

theorem Ex.seq {a : List Stmt} {T : Heap → Prop} (h1 : Ex prog w n env ex S a (fun f h => match f with | .next => T h | f => Q f h)) (h2 : Ex prog w n env ex T rest Q) : Ex prog w n env ex S (a ++ rest) Q := by
  intro A R s E hS
  rw [execs_append]
  refine wpAny_bind (wpAny_mono (h1 A R s E hS) (fun f s' ⟨⟨h', tk, e⟩, k, q⟩ => ?_) fun _ _ x => x)
  subst e
  cases f with
  | next => exact ex_then R h2 q k
  | _ => exact wpAny_pure ⟨⟨_, _, rfl⟩, k, q⟩
theorem Ex.assign2 {x y : Str} {p1 p2 pos : Pos} {e : Expr} {a : AV} {vs₁ vs₂ : Vars} (he : Ev prog w K n env ex vs e a) (u1 : Upd x (.val a) vs vs₁) (u2 : Upd y (.val a) vs₁ vs₂) (hr : Ex prog w n env ex (StS K env h₀ ex vs₂) rest Q)
    (hw : swappedStores [.Name x p1, .Name y p2] e env = pure none := by rfl) : Ex prog w n env ex (StS K env h₀ ex vs) (.Assign [.Name x p1, .Name y p2] e pos :: rest) Q := by
  intro A R s E hS
  refine wpAny_execs_cons (wpAny_Assign_two (he A R s _ _ hS.e fun v s₁ g q => ?_) rfl hw)
  obtain ⟨⟨h₁, tk₁, rfl⟩, k₁⟩ := g
  have S₁ := hS.up k₁
  refine wpAny_assign_Name (store_val (s := { s with heap := h₁, toks := tk₁ }) S₁ u1 q fun h₂ tk₂ S₂ k₂ => ?_)
  refine wpAny_assign_Name (store_val (s := { s with heap := h₂, toks := tk₂ }) S₂ u2 (q.moves (S₁.seqKept k₂) fun _ _ n _ => n) fun h₃ tk₃ S₃ k₃ => ?_)
  exact ex_then R hr S₃ (((Kept.of_ext k₁).trans k₂).trans k₃)

theorem Ex.augm {x : Str} {p' pos : Pos} {op : Operator} {e : Expr} {a b c : AV} (hm : (x, Slot.val a) ∈ vs) (he : Ev prog w K n env ex vs e b) (ho : OpOk prog w n ex (inplaceOp op) a b c) (u : Upd x (.val c) vs vs')
    (hr : Ex prog w n env ex (StS K env h₀ ex vs') rest Q) : Ex prog w n env ex (StS K env h₀ ex vs) (.AugAssign (.Name x p') op e pos :: rest) Q := Ex.aug hm he ho u hr
/-- the stores of an unpacking -/
theorem stores {A : Around} {E : Value → Shared → Prop} : ∀ {ps : List (Str × AV)} {us : List Value} {vs vs' : Vars} {s : Shared} {QQ : Unit → Shared → Prop}, Upds ps vs vs' → Vals s.heap ex us (ps.map (·.2)) → StS K env h₀ ex vs s.heap →
    (∀ h' tk, StS K env h₀ ex vs' h' → Kept env ex s.heap h' → QQ () { s with heap := h', toks := tk }) → wpAny (model prog w) A (assignInOrder (ps.map fun p => bindName env p.1) us) QQ E s
  | [], us, vs, vs', s, QQ, u, q, S, h => by
    cases u
    exact wpAny_pure (h s.heap s.toks S Kept.refl)
  | (x, a) :: ps, us, vs, vs', s, QQ, u, q, S, h => by
    cases u with
    | cons u1 ur =>
    cases q with
    | cons q1 qr =>
    show wpAny _ A (do holding _ (bindName env x _); assignInOrder (ps.map fun p => bindName env p.1) _) _ _ _
    refine wpAny_bind (wpAny_holding (wpAny_bindName (store_val S u1 q1 fun h₁ tk₁ S₁ k₁ => ?_)))
    refine stores ur (qr.moves (S.seqKept k₁) fun _ _ n _ => n) S₁ fun h₂ tk₂ S₂ k₂ => ?_
    exact h h₂ tk₂ S₂ (k₁.trans k₂)

theorem Vals.reverse {h : Heap} {ex : Addr → Prop} : ∀ {vs : List Value} {as : List AV}, Vals h ex vs as → Vals h ex vs.reverse as.reverse
  | _, _, .nil => .nil
  | _, _, .cons x r => by rw [List.reverse_cons, List.reverse_cons]; exact (Vals.reverse r).append (.cons x .nil)

theorem Ex.swap {elts es : List Expr} {k kk : Nat} {tp vp pos : Pos} {ps : List (Str × AV)} (he : Ev prog w K n env ex vs (.Tuple es kk vp) (.tup (ps.map (·.2)))) (u : Upds ps.reverse vs vs') (hr : Ex prog w n env ex (StS K env h₀ ex vs') rest Q)
    (hw : swappedStores [.Tuple elts k tp] (.Tuple es kk vp) env = pure (some (ps.map (·.1))))
    (hs : swapsWithSole [.Tuple elts k tp] (.Tuple es kk vp) pos.line env = pure false := by rfl) : Ex prog w n env ex (StS K env h₀ ex vs) (.Assign [.Tuple elts k tp] (.Tuple es kk vp) pos :: rest) Q := by
  intro A R s E hS
  refine wpAny_execs_cons (Assign_Tuple_swapped (he A R s _ _ hS.e fun v s₁ g q => ?_) hs hw)
  cases q with
  | @tup t us _ hex il qs =>
  have hlen : (ps.map (·.1)).length = us.toArray.size := by rw [List.size_toArray, qs.length]; simp
  rw [hlen]
  refine unpackItems_tuple R.1 il fun h' he => ?_
  have k₂ : Ext s₁.heap h' := fun b o e => he b o (Nat.ne_of_lt (Heap.lt_size e)) e
  obtain ⟨⟨h₁, tk₁, rfl⟩, k₁⟩ := g
  have e1 : (ps.map (·.1)).reverse.map (fun n => bindName env n) = ps.reverse.map fun p => bindName env p.1 := by simp [List.map_reverse]
  rw [e1]
  have q2 : Vals h' ex us.toArray.toList.reverse (ps.reverse.map (·.2)) := by
    have := (qs.up k₂).reverse
    simpa [List.map_reverse] using this
  refine stores (s := { s with heap := h', toks := tk₁ }) u q2 ((hS.up k₁).up k₂) fun h₃ tk₃ S₃ k₃ => ?_
  exact ex_then R hr S₃ (((Kept.of_ext k₁).trans (Kept.of_ext k₂)).trans k₃)

/-- targets that are names -/
inductive Tgts : List Expr → List (Str × AV) → Prop
  | nil : Tgts [] []
  | cons {x : Str} {p : Pos} {a : AV} {es : List Expr} {ps : List (Str × AV)} : Tgts es ps → Tgts (.Name x p :: es) ((x, a) :: ps)
theorem Tgts.length {es : List Expr} {ps : List (Str × AV)} (h : Tgts es ps) : (assignEach es env).length = ps.length ∧ (assignEach es env).findIdx? (·.1) = none := by
  induction h with
  | nil => exact ⟨rfl, rfl⟩
  | @cons x p a es ps _ ih =>
    have e : assignEach (.Name x p :: es) env = (false, assign (.Name x p) env) :: assignEach es env := rfl
    rw [e]
    exact ⟨by rw [List.length_cons, List.length_cons, ih.1], by rw [List.findIdx?_cons]; simp [ih.2]⟩
theorem storesT {A : Around} {E : Value → Shared → Prop} {es : List Expr} {ps : List (Str × AV)} (ht : Tgts es ps) : ∀ {us : List Value} {vs vs' : Vars} {s : Shared} {QQ : Unit → Shared → Prop}, Upds ps vs vs' → Vals s.heap ex us (ps.map (·.2)) → StS K env h₀ ex vs s.heap →
    (∀ h' tk, StS K env h₀ ex vs' h' → Kept env ex s.heap h' → QQ () { s with heap := h', toks := tk }) → wpAny (model prog w) A (assignInOrder ((assignEach es env).map (·.2)) us) QQ E s := by
  induction ht with
  | nil =>
    intro us vs vs' s QQ u q S h
    cases u
    exact wpAny_pure (h s.heap s.toks S Kept.refl)
  | @cons x p a es ps _ ih =>
    intro us vs vs' s QQ u q S h
    cases u with
    | cons u1 ur =>
    cases q with
    | cons q1 qr =>
    show wpAny _ A (do holding _ (assign (.Name x p) env _); assignInOrder ((assignEach es env).map (·.2)) _) _ _ _
    refine wpAny_bind (wpAny_holding (wpAny_assign_Name (store_val S u1 q1 fun h₁ tk₁ S₁ k₁ => ?_)))
    refine ih (s := { s with heap := h₁, toks := tk₁ }) ur (qr.moves (S.seqKept k₁) fun _ _ n _ => n) S₁ fun h₂ tk₂ S₂ k₂ => ?_
    exact h h₂ tk₂ S₂ (k₁.trans k₂)
/-- a, b = e, in the order written -/
theorem Ex.unpack {elts : List Expr} {e : Expr} {k : Nat} {tp pos : Pos} {ps : List (Str × AV)} (he : Ev prog w K n env ex vs e (.tup (ps.map (·.2)))) (ht : Tgts elts ps) (u : Upds ps vs vs') (hr : Ex prog w n env ex (StS K env h₀ ex vs') rest Q)
    (hw : swappedStores [.Tuple elts k tp] e env = pure none)
    (hs : swapsWithSole [.Tuple elts k tp] e pos.line env = pure false := by rfl) : Ex prog w n env ex (StS K env h₀ ex vs) (.Assign [.Tuple elts k tp] e pos :: rest) Q := by
  intro A R s E hS
  refine wpAny_execs_cons (Assign_Tuple (he A R s _ _ hS.e fun v s₁ g q => ?_) hs hw)
  cases q with
  | @tup t us _ hex il qs =>
  refine wpAny_assign_Tuple R.1 il (by rw [ht.length.1, List.size_toArray, qs.length]; simp) ht.length.2 fun h' he' => ?_
  have k₂ : Ext s₁.heap h' := fun b o e => he' b o (Nat.ne_of_lt (Heap.lt_size e)) e
  obtain ⟨⟨h₁, tk₁, rfl⟩, k₁⟩ := g
  refine storesT ht (s := { s with heap := h', toks := tk₁ }) u (qs.up k₂) ((hS.up k₁).up k₂) fun h₃ tk₃ S₃ k₃ => ?_
  exact ex_then R hr S₃ (((Kept.of_ext k₁).trans (Kept.of_ext k₂)).trans k₃)

theorem Ev.list {es : List Expr} {as : List AV} {p : Pos} (ha : EvS prog w K n env ex vs es as) (hsz : as.length ≤ sizeLine) : EvN prog w K n env ex vs (.List es p) as := by
  intro A R s Q E S h
  refine wpAny_List (ha A R p s _ _ S fun us s₁ g q => ⟨q.length ▸ hsz, ?_⟩)
  refine h _ us _ (g.trans (Grown.push _ _ _)) ?_ ⟨_, Heap.get?_push_size _ rfl, rfl, ⟨0, rfl⟩, fun _ => ⟨rfl, rfl⟩⟩ ?_
  · cases e : s.heap.get? s₁.heap.objs.size with
    | none => rfl
    | some o => exact absurd (Heap.lt_size (g.ext _ _ e)) (Nat.lt_irrefl _)
  · exact q.moves (Ext.seq fun b o e => Heap.get?_push_of_some _ e) fun b o hb e q => q.elim hb fun q => by rw [q, no_next] at e; cases e
theorem Ev.tuple {es : List Expr} {as : List AV} {k : Nat} {p : Pos} (ha : EvS prog w K n env ex vs es as) (hsz : as.length ≤ sizeLine) : Ev prog w K n env ex vs (.Tuple es k p) (.tup as) := by
  intro A R s Q E S h
  refine wpAny_Tuple (ha A R p s _ _ S fun us s₁ g q => ⟨q.length ▸ hsz, ?_⟩)
  refine h _ _ (g.trans (Grown.push _ _ _)) (.tup (S.up g).there.next ⟨_, Heap.get?_push_size _ rfl, rfl, 0, rfl⟩ ?_)
  exact q.up fun b o e => Heap.get?_push_of_some _ e

/-- some slots forgotten -/
inductive Fgt : Vars → Vars → Prop
  | nil : Fgt [] []
  | same {p : Str × Slot} {r r' : Vars} : Fgt r r' → Fgt (p :: r) (p :: r')
  | free {x : Str} {sl : Slot} {r r' : Vars} : Fgt r r' → Fgt ((x, sl) :: r) ((x, .free) :: r')
theorem Fgt.names {vs vs' : Vars} (f : Fgt vs vs') : vs'.map (·.1) = vs.map (·.1) := by
  induction f with
  | nil => rfl
  | same _ ih => rw [List.map_cons, List.map_cons, ih]
  | free _ ih => rw [List.map_cons, List.map_cons, ih]
theorem Fgt.mem {vs vs' : Vars} (f : Fgt vs vs') : ∀ p ∈ vs', p ∈ vs ∨ p.2 = .free := by
  induction f with
  | nil => intro p hp; cases hp
  | same _ ih =>
    intro p hp
    rcases List.mem_cons.mp hp with e | hp
    · subst e; exact .inl List.mem_cons_self
    · exact (ih p hp).imp (List.mem_cons_of_mem _) id
  | free _ ih =>
    intro p hp
    rcases List.mem_cons.mp hp with e | hp
    · subst e; exact .inr rfl
    · exact (ih p hp).imp (List.mem_cons_of_mem _) id
theorem StS.forget {h : Heap} (S : StS K env h₀ ex vs h) (f : Fgt vs vs') : StS K env h₀ ex vs' h := by
  refine ⟨⟨S.e.fn, S.e.gl, S.e.bl, S.e.base, S.e.there, fun p hp => ?_⟩, S.base0, S.ns, S.keep, S.newL, fun x l pp xs hp => ?_, fun x y l pp qq xs ys hx hy => ?_, S.cells, S.celld, by rw [f.names]; exact S.names, fun p hp => ?_⟩
  · rcases f.mem p hp with e | e
    · exact S.e.holds p e
    · rw [e]; trivial
  · rcases f.mem _ hp with e | e
    · exact S.newO x l pp xs e
    · cases e
  · rcases f.mem _ hx with e | e
    · rcases f.mem _ hy with e' | e'
      · exact S.ownd x y l pp qq xs ys e e'
      · cases e'
    · cases e
  · have : p.1 ∈ vs.map (·.1) := f.names ▸ List.mem_map.mpr ⟨p, hp, rfl⟩
    obtain ⟨q, hq, e⟩ := List.mem_map.mp this
    exact e ▸ S.kinds q hq
theorem EvN.to {e : Expr} {xs ys : List AV} (h : EvN prog w K n env ex vs e xs) (hb : xs = ys) : EvN prog w K n env ex vs e ys := hb ▸ h
theorem EvR.to {e : Expr} {a b c a' b' c' : Int} (h : EvR prog w K n env ex vs e a b c) (h1 : a = a') (h2 : b = b') (h3 : c = c') : EvR prog w K n env ex vs e a' b' c' := h1 ▸ h2 ▸ h3 ▸ h
theorem Ex.toVars {ss : List Stmt} (h : Ex prog w n env ex (StS K env h₀ ex vs') ss Q) (e : vs = vs') : Ex prog w n env ex (StS K env h₀ ex vs) ss Q := e ▸ h
def bodyOf (K : Frag) (f : Addr) : List Stmt := match K.lookup f with
  | some ⟨_, _, .func fd, _⟩ => (match fd.body with | .stmts b => b | _ => [])
  | _ => []
end
end Mine

end T_DH

section T_LP
open PySem PySem.W PyProof.Rows PySem.Calls PySem.Spec
open PySem.Builtin PySem.Builtin.Str
set_option linter.unusedVariables false
set_option linter.unusedSimpArgs false
namespace Mine
/-- the text of these signs -/
def T (l : List Nat) : PySem.Str := ⟨l.toArray⟩
theorem T_length (l : List Nat) : (T l).length = l.length := by simp [T, PySem.Str.length]
theorem T_inj {a b : List Nat} : T a = T b ↔ a = b := by
  constructor
  · intro h
    have : (T a).cps.toList = (T b).cps.toList := by rw [h]
    simpa [T] using this
  · rintro rfl; rfl
theorem T_beq (a b : List Nat) : (T a == T b) = decide (a = b) := by
  by_cases h : a = b
  · subst h; simp
  · have : T a ≠ T b := fun e => h (T_inj.mp e)
    simp [h, this]
theorem T_append (a b : List Nat) : T a ++ T b = T (a ++ b) := by
  show (⟨_⟩ : PySem.Str) = _
  simp [T]

theorem pick_range (l : List Nat) (i : Nat) : ∀ m, ((List.range m).filterMap fun k => l[i + k]?) = (l.drop i).take m
  | 0 => by simp
  | m + 1 => by
    rw [List.range_succ, List.filterMap_append, pick_range l i m, List.take_add_one]
    congr 1
    simp only [List.filterMap_cons, List.filterMap_nil, List.getElem?_drop]
    cases l[i + m]? <;> simp
theorem sliceRange_one (i j : Nat) : sliceRange (i : Int) (j : Int) 1 = (List.range (j - i)).map fun k => i + k := by
  unfold sliceRange
  simp only [show (1 : Int) > 0 by decide, if_true]
  have hc : (if (i : Int) < (j : Int) then ((j : Int) - i + 1 - 1) / 1 else 0).toNat = j - i := by split <;> simp <;> omega
  rw [hc]
  apply List.map_congr_left
  intro k _
  omega
theorem slice_gen (l : List Nat) (lo hi : Option Int) (i j : Nat) (h : strSliceIndices lo hi 1 (T l).length = sliceRange (i : Int) (j : Int) 1) (hj : j ≤ l.length) : Txt.slice (T l) lo hi = T ((l.drop i).take (j - i)) := by
  unfold Txt.slice
  have hp : (sliceRange (i : Int) (j : Int) 1).filterMap ((T l).cps[·]?) = (l.drop i).take (j - i) := by
    rw [sliceRange_one, List.filterMap_map]
    have : ((fun x => (T l).cps[x]?) ∘ fun k => i + k) = fun k => l[i + k]? := by funext k; simp [T]
    rw [this]
    exact pick_range l i _
  rw [h, hp]
  split
  · rename_i hc
    have hc' : (sliceRange (i : Int) (j : Int) 1).length = l.length := by simpa [T_length] using hc
    rw [sliceRange_one] at hc'
    simp at hc'
    have : (l.drop i).take (j - i) = l := by
      by_cases hl : l.length = 0
      · have : l = [] := List.length_eq_zero_iff.mp hl
        subst this; simp
      · have hi : i = 0 := by omega
        subst hi
        rw [List.drop_zero]
        exact List.take_of_length_le (by omega)
    rw [this]
  · rfl
theorem slice_from (l : List Nat) (k : Nat) (hk : k ≤ l.length) : Txt.slice (T l) (some (k : Int)) none = T (l.drop k) := by
  rw [slice_gen l _ _ k l.length ?_ (Nat.le_refl _)]
  · rw [List.take_of_length_le (by simp)]
  · unfold strSliceIndices
    simp only [show (1 : Int) > 0 by decide, if_true, T_length]
    congr 1
    rw [if_neg (by omega)]; omega
theorem slice_upto (l : List Nat) (k : Nat) (hk : k ≤ l.length) : Txt.slice (T l) none (some (k : Int)) = T (l.take k) := by
  rw [slice_gen l _ _ 0 k ?_ hk]
  · simp
  · unfold strSliceIndices
    simp only [show (1 : Int) > 0 by decide, if_true, T_length]
    congr 1
    rw [if_neg (by omega)]; omega
theorem slice_uptoMin (l : List Nat) (k : Nat) : Txt.slice (T l) none (some (k : Int)) = T (l.take k) := by
  rw [slice_gen l _ _ 0 (min k l.length) ?_ (Nat.min_le_right _ _)]
  · simp only [Nat.sub_zero, List.drop_zero]
    rw [← List.take_take, List.take_length]
  · unfold strSliceIndices
    simp only [show (1 : Int) > 0 by decide, if_true, T_length]
    congr 1
    rw [if_neg (by omega)]; omega
theorem slice_mid (l : List Nat) (i j : Nat) (hij : i ≤ j) : Txt.slice (T l) (some (i : Int)) (some (j : Int)) = T ((l.drop i).take (j - i)) := by
  by_cases hj : j ≤ l.length
  · rw [slice_gen l _ _ i j ?_ hj]
    unfold strSliceIndices
    simp only [show (1 : Int) > 0 by decide, if_true, T_length]
    congr 1
    · rw [if_neg (by omega)]; omega
    · rw [if_neg (by omega)]; omega
  · rw [slice_gen l _ _ (min i l.length) l.length ?_ (Nat.le_refl _)]
    · congr 1
      by_cases hi : i ≤ l.length
      · rw [Nat.min_eq_left hi, List.take_of_length_le (by simp), List.take_of_length_le (by simp; omega)]
      · rw [Nat.min_eq_right (by omega), List.drop_length, List.drop_eq_nil_of_le (by omega)]; simp
    · unfold strSliceIndices
      simp only [show (1 : Int) > 0 by decide, if_true, T_length]
      congr 1
      · rw [if_neg (by omega)]; omega
      · rw [if_neg (by omega)]; omega
theorem slice_neg (l : List Nat) (k : Nat) (hk : 0 < k) (hl : k ≤ l.length) : Txt.slice (T l) none (some (-(k : Int))) = T (l.take (l.length - k)) := by
  rw [slice_gen l _ _ 0 (l.length - k) ?_ (by omega)]
  · simp
  · unfold strSliceIndices
    simp only [show (1 : Int) > 0 by decide, if_true, T_length]
    congr 1
    rw [if_pos (by omega)]; omega
theorem slice_all (l : List Nat) : Txt.slice (T l) none none = T l := by
  rw [slice_gen l _ _ 0 l.length ?_ (Nat.le_refl _)]
  · simp
  · unfold strSliceIndices
    simp only [show (1 : Int) > 0 by decide, if_true, T_length]
    rfl
theorem item_at (l : List Nat) (k : Nat) (hk : k < l.length) : Txt.item (T l) (k : Int) = T [l.getD k 0] := by
  unfold Txt.item Txt.charAt seqIndex?
  rw [T_length]
  simp only [show ¬ (k : Int) < 0 by omega, if_false]
  rw [if_pos (by simp; omega)]
  simp [T, hk]
theorem item_neg (l : List Nat) (k : Nat) (hk : 0 < k) (hl : k ≤ l.length) : Txt.item (T l) (-(k : Int)) = T [l.getD (l.length - k) 0] := by
  unfold Txt.item Txt.charAt seqIndex?
  rw [T_length]
  simp only [show (-(k : Int)) < 0 by omega, if_true]
  rw [if_pos (by simp; omega)]
  have e : (-(k : Int) + l.length).toNat = l.length - k := by omega
  simp [T, e]
end Mine

end T_LP

section T_LDb
open PySem PySem.W PyProof.Rows PySem.Calls PySem.Spec
set_option linter.unusedVariables false
set_option linter.unusedSimpArgs false
set_option maxRecDepth 100000
namespace Mine
local macro_rules | `(tactic| walk_at "d.mem") => `(tactic| first | (with_reducible exact List.mem_cons_self) | ((with_reducible refine' List.mem_cons_of_mem _ ?_); walk_at "d.mem"))
local macro_rules | `(tactic| walk_at "d.upd") => `(tactic| first | (with_reducible exact Upd.head) | ((with_reducible refine' Upd.tail ?hu); (case hu => walk_at "d.upd")))
local macro_rules | `(tactic| walk_at "d.meth") => `(tactic| (unfold MethTree; exact rfl))
local macro_rules | `(tactic| walk_at "d.kind") => `(tactic| (refine' Kinds.get (by assumption) ?_; kernel_rfl))
local macro_rules | `(tactic| walk_at "d.num") => `(tactic| first | assumption | decide | omega | (simp only [sizeLine_eq] at *; omega))
local macro_rules | `(tactic| walk_at "d.op") => `(tactic| first
  | (with_reducible exact op_add_int) | (with_reducible exact op_sub_int) | (with_reducible exact op_eq_str) | (with_reducible exact op_ne_str) | (with_reducible exact op_eq_int) | (with_reducible exact op_ne_int)
  | (with_reducible exact op_lt_int) | (with_reducible exact op_le_int) | (with_reducible exact op_gt_int) | (with_reducible exact op_iadd_int) | (with_reducible exact op_isub_int)
  | ((with_reducible refine' op_add_str ?_); walk_at "d.num") | ((with_reducible refine' op_mul_int ?_); mul_fits))
local macro_rules | `(tactic| walk_at "d.tru") => `(tactic| first | (with_reducible exact tru_bool) | (with_reducible exact tru_none) | (with_reducible exact tru_int) | ((with_reducible refine' tru_str ?_); walk_at "d.num"))
local macro_rules | `(tactic| walk_at "d.ev") => `(tactic| first
  | (with_reducible exact Ev.cint) | (with_reducible exact Ev.cstr) | (with_reducible exact Ev.cbool) | (with_reducible exact Ev.cnone)
  | ((with_reducible refine' Ev.name ?hm ?hd); (case hd => decide); (case hm => walk_at "d.mem"))
  | ((with_reducible refine' Ev.op ?ha ?hb ?ho); (case ha => walk_at "d.ev"); (case hb => walk_at "d.ev"); (case ho => walk_at "d.op"))
  | ((with_reducible refine' Ev.cmp ?ha ?hb ?ho ?hm); (case ha => walk_at "d.ev"); (case hb => walk_at "d.ev"); (case ho => walk_at "d.op"); (case hm => with_unfolding_all rfl))
  | ((with_reducible refine' Ev.lower ?ha ?hn ?hm); (case ha => walk_at "d.ev"); (case hn => walk_at "d.num"); (case hm => walk_at "d.meth"))
  | ((with_reducible refine' Ev.upper ?ha ?hn ?hm); (case ha => walk_at "d.ev"); (case hn => walk_at "d.num"); (case hm => walk_at "d.meth"))
  | ((with_reducible refine' Ev.isupper ?ha ?hm); (case ha => walk_at "d.ev"); (case hm => walk_at "d.meth"))
  | ((with_reducible refine' Ev.strSlice ?ha ?hl ?hu ?hn); (case ha => walk_at "d.ev"); (case hl => walk_at "d.part"); (case hu => walk_at "d.part"); (case hn => walk_at "d.num"))
  | ((with_reducible refine' Ev.itemL (EvL.name ?hm ?hd) ?hb ?h0 ?ha ?hn ?hs); (case hm => walk_at "d.mem"); (case hd => decide); (case hb => walk_at "d.ev"); (case h0 => walk_at "d.num"); (case ha => assumption); (case hn => walk_at "d.num"); (case hs => (intro _ _; with_unfolding_all rfl)))
  | ((with_reducible refine' Ev.strItem ?ha ?hb ?hn ?h1 ?h2 ?hs); (case ha => walk_at "d.ev"); (case hb => walk_at "d.ev"); (case hn => walk_at "d.num"); (case h1 => walk_at "d.num"); (case h2 => walk_at "d.num"); (case hs => (intro _ _; with_unfolding_all rfl)))
  | ((with_reducible refine' Ev.lenStr ?hn ?hk ?ha ?hb ?hs); (case hn => kernel_rfl); (case hk => walk_at "d.kind"); (case ha => walk_at "d.ev"); (case hb => walk_at "d.num"); (case hs => exact rfl))
  | ((with_reducible refine' Ev.min2 ?hn ?hk ?ha ?hb ?hs ?ht ?hu); (case hn => kernel_rfl); (case hk => walk_at "d.kind"); (case ha => walk_at "d.ev"); (case hb => walk_at "d.ev"); (case hs => exact rfl); (case ht => exact rfl); (case hu => exact rfl))
  | ((with_reducible refine' Ev.typeStr ?hn ?hk ?ha ?hs); (case hn => kernel_rfl); (case hk => walk_at "d.kind"); (case ha => walk_at "d.ev"); (case hs => exact rfl))
  | ((with_reducible refine' Ev.isSub ?hn ?hk ?ha ?hb ?hs ?ht ?hu); (case hn => kernel_rfl); (case hk => walk_at "d.kind"); (case ha => walk_at "d.ev"); (case hb => walk_at "d.ev"); (case hs => exact rfl); (case ht => exact rfl); (case hu => exact rfl))
  | ((with_reducible refine' Ev.notBytes ?hn ?hk ?ha ?hb ?hs ?ht ?hu); (case hn => kernel_rfl); (case hk => walk_at "d.kind"); (case ha => walk_at "d.ev"); (case hb => walk_at "d.ev"); (case hs => exact rfl); (case ht => exact rfl); (case hu => exact rfl))
  | ((with_reducible refine' Ev.startswith ?ha ?hb ?hm ?hs); (case ha => walk_at "d.ev"); (case hb => walk_at "d.ev"); (case hm => walk_at "d.meth"); (case hs => exact rfl))
  | ((with_reducible refine' Ev.endswith ?ha ?hb ?hm ?hs); (case ha => walk_at "d.ev"); (case hb => walk_at "d.ev"); (case hm => walk_at "d.meth"); (case hs => exact rfl))
  | ((with_reducible refine' Ev.rfind ?ha ?hb ?hm ?hs); (case ha => walk_at "d.ev"); (case hb => walk_at "d.ev"); (case hm => walk_at "d.meth"); (case hs => exact rfl))
  | ((with_reducible refine' Ev.neg ?ha); (case ha => walk_at "d.ev"))
  | ((with_reducible refine' Ev.tuple ?ha ?hn); (case ha => walk_at "d.evs"); (case hn => exact (by simp [sizeLine_eq])))
  | ((with_reducible refine' Ev.globalInt ?hn ?hk ?hd); (case hn => exact rfl); (case hk => walk_at "d.kind"); (case hd => decide))
  | ((with_reducible refine' Ev.builtin ?hn ?hv ?hk ?hm ?hd); (case hn => kernel_rfl); (case hv => walk_at "d.boot"); (case hk => walk_at "d.kind"); (case hm => decide); (case hd => decide)))
local macro_rules | `(tactic| walk_at "d.boot") => `(tactic| first | (with_reducible exact boot_str_) | (with_reducible exact boot_bytes_))
local macro_rules | `(tactic| walk_at "d.part") => `(tactic| first | (with_reducible exact EvP.nothing) | ((with_reducible refine' EvP.num ?ha); (case ha => walk_at "d.ev")) | ((with_reducible refine' EvP.nil ?ha); (case ha => walk_at "d.ev")))
local macro_rules | `(tactic| walk_at "d.evs") => `(tactic| first | (with_reducible exact EvS.nil) | ((with_reducible refine' EvS.cons ?ha ?hb ?hs); (case ha => walk_at "d.ev"); (case hb => walk_at "d.evs"); (case hs => exact rfl)))
local macro_rules | `(tactic| walk_at "d.te") => `(tactic| first
  | ((with_reducible refine' Te.cmp ?ha ?hb ?ho ?hm); (case ha => walk_at "d.ev"); (case hb => walk_at "d.ev"); (case ho => walk_at "d.op"); (case hm => with_unfolding_all rfl))
  | ((with_reducible refine' Te.not ?ha); walk_at "d.te")
  | ((with_reducible refine' Te.plain ?ha ?hb ?hc); (case ha => walk_at "d.ev"); (case hb => walk_at "d.tru"); (case hc => exact rfl)))
local macro_rules | `(tactic| walk_at "d.ret") => `(tactic| (refine' Ex.ret ?e ?_; (case e => walk_at "d.ev"); exact fun h v S q => ⟨S.keep, q.flat (by constructor)⟩))
local macro_rules | `(tactic| walk_at "d.asg") => `(tactic| (refine' Ex.assign ?e ?u ?_ ?hs; (case e => walk_at "d.ev"); (case u => walk_at "d.upd"); (case hs => exact rfl)))
local macro_rules | `(tactic| walk_at "d.aug") => `(tactic| (refine' Ex.augm ?m ?e ?o ?u ?_; (case m => walk_at "d.mem"); (case e => walk_at "d.ev"); (case o => walk_at "d.op"); (case u => walk_at "d.upd")))
local macro_rules | `(tactic| walk_at "d.fgt") => `(tactic| first | (with_reducible exact Fgt.nil) | ((with_reducible refine' Fgt.same ?hu); (case hu => walk_at "d.fgt")) | ((with_reducible refine' Fgt.free ?hu); (case hu => walk_at "d.fgt")))
local macro_rules | `(tactic| walk_at "d.range1") => `(tactic| ((with_reducible refine' EvR.of1 ?hn ?hk ?ha ?hs); (case hn => kernel_rfl); (case hk => walk_at "d.kind"); (case ha => walk_at "d.ev"); (case hs => exact rfl)))

def sc (x y : Nat) : Int := subCost (T [x]) (T [y])
def cpl : List Nat → List Nat → Nat
  | x :: a, y :: b => if x = y then cpl a b + 1 else 0
  | _, _ => 0
def istep (bc : Nat) (la : List Nat) (i : Nat) (s : List Int × Int × Int × Int) : List Int × Int × Int × Int :=
  let r' := min (min s.2.2.1 (s.1.getD i 0) + 2) (s.2.1 + sc bc (la.getD i 0))
  (s.1.set i r', s.1.getD i 0, r', if r' < s.2.2.2 then r' else s.2.2.2)
def ist (bc : Nat) (la : List Nat) (s : List Int × Int × Int × Int) : Nat → List Int × Int × Int × Int
  | 0 => s
  | i + 1 => istep bc la i (ist bc la s i)
def dpGo (la lb : List Nat) (m : Int) : Nat → Nat → List Int → Int → Int
  | 0, _, _, r => r
  | k + 1, j, row, r =>
    let s := ist (lb.getD j 0) la (row, 2 * (j : Int), 2 * (j : Int), 9223372036854775807) la.length
    if m < s.2.2.2 then m + 1 else dpGo la lb m k (j + 1) s.1 s.2.2.1
def levD (a b : List Nat) (m : Int) : Int :=
  if m < ((b.length : Int) - a.length) * 2 then m + 1 else dpGo a b m b.length 0 ((List.range a.length).map fun (i : Nat) => 2 + (i : Int) * 2) 0
def levT (a b : List Nat) (m : Int) : Int :=
  if a = [] ∨ b = [] then 2 * ((a.length : Int) + b.length)
  else if 40 < a.length ∨ 40 < b.length then m + 1
  else if b.length < a.length then levD b a m else levD a b m
def lev (a b : List Nat) (m : Int) : Int :=
  if a = b then 0
  else
    let a1 := a.drop (cpl a b)
    let b1 := b.drop (cpl a b)
    let q := cpl a1.reverse b1.reverse
    levT (a1.take (a1.length - q)) (b1.take (b1.length - q)) m

theorem cpl_le : ∀ (a b : List Nat), cpl a b ≤ a.length ∧ cpl a b ≤ b.length
  | [], b => by simp [cpl]
  | x :: a, [] => by simp [cpl]
  | x :: a, y :: b => by
    have := cpl_le a b
    unfold cpl
    split <;> simp <;> omega
theorem cpl_lt : ∀ (a b : List Nat) (p : Nat), p ≤ cpl a b → (p < cpl a b ↔ p < a.length ∧ p < b.length ∧ a.getD p 0 = b.getD p 0)
  | [], b, p, h => by simp [cpl]
  | x :: a, [], p, h => by simp [cpl]
  | x :: a, y :: b, p, h => by
    unfold cpl at h ⊢
    by_cases hxy : x = y
    · rw [if_pos hxy] at h ⊢
      cases p with
      | zero => simp [hxy]
      | succ p =>
        have := cpl_lt a b p (by omega)
        simp only [List.length_cons, List.getD_cons_succ]
        omega
    · rw [if_neg hxy] at h ⊢
      have : p = 0 := by omega
      subst this
      simp [hxy]

abbrev lv (a b : List Nat) (m : Int) (pre post row result bindex bchar distance minimum index substitute insdel : Slot) : Vars :=
  [("a", .val (.str (T a))), ("b", .val (.str (T b))), ("max_cost", .val (.int m)), ("pre", pre), ("post", post), ("row", row), ("result", result), ("bindex", bindex), ("bchar", bchar), ("distance", distance), ("minimum", minimum), ("index", index), ("substitute", substitute), ("insert_delete", insdel)]
theorem range_two (n : Nat) (hn : n ≤ 1000) : Builtin.Range.small 2 (2 * ((n : Int) + 1)) 2 = true ∧ Builtin.Range.rangeSize 2 (2 * ((n : Int) + 1)) 2 = (n : Int) := by
  have h2 : Builtin.Range.rangeSize 2 (2 * ((n : Int) + 1)) 2 = (n : Int) := by
    unfold Builtin.Range.rangeSize
    simp only [show (2 : Int) > 0 by decide, if_true]
    split <;> omega
  refine ⟨?_, h2⟩
  have fit : ∀ i : Int, -1000000 ≤ i → i ≤ 1000000 → Builtin.Range.rangeFitsLong i = true := by
    intro i h1 h2
    unfold Builtin.Range.rangeFitsLong
    simp
    omega
  unfold Builtin.Range.small
  rw [h2, fit 2 (by omega) (by omega), fit (2 * ((n : Int) + 1)) (by omega) (by omega), fit (n : Int) (by omega) (by omega), if_pos (by decide), fit (2 * ((n : Int) + 1) + (2 - 1)) (by omega) (by omega)]
  simp
theorem range_up (n : Nat) (hn : n ≤ 1000000) : Builtin.Range.small 0 (n : Int) 1 = true ∧ Builtin.Range.rangeSize 0 (n : Int) 1 = (n : Int) := by
  refine ⟨small_one (by omega) (by omega) (by omega) (by omega), ?_⟩
  rw [rangeSize_one]; split <;> omega

theorem ist_length (bc : Nat) (la : List Nat) (s : List Int × Int × Int × Int) : ∀ i, (ist bc la s i).1.length = s.1.length
  | 0 => rfl
  | i + 1 => by unfold ist istep; simp [ist_length bc la s i]
theorem map_int_get (row : List Int) (i : Nat) (hi : i < row.length) : (row.map AV.int)[((i : Nat) : Int).toNat]? = some (.int (row.getD i 0)) := by
  simp [hi]
set_option maxHeartbeats 8000000 in
theorem lev_dp (w : World) (env : Env) (h₀ : Heap) {a b : List Nat} {m : Int} (hk : Kinds env [("a", NameKind.local), ("b", NameKind.local), ("max_cost", NameKind.local), ("pre", NameKind.local), ("post", NameKind.local), ("row", NameKind.local), ("result", NameKind.local), ("bindex", NameKind.local), ("bchar", NameKind.local), ("distance", NameKind.local), ("minimum", NameKind.local), ("index", NameKind.local), ("substitute", NameKind.local), ("insert_delete", NameKind.local), ("_MOVE_COST", NameKind.globalImplicit), ("len", NameKind.globalImplicit), ("_MAX_STRING_SIZE", NameKind.globalImplicit), ("list", NameKind.globalImplicit), ("range", NameKind.globalImplicit), ("_substitution_cost", NameKind.globalImplicit), ("min", NameKind.globalImplicit)])
    (ha : a.length ≤ 40) (hb : b.length ≤ 40) (pz qz : Int) : Ex PG w 1 env No (StS (KK w) env h₀ No (lv a b m (.val (.int pz)) (.val (.int qz)) .free .free .free .free .free .free .free .free .free)) ((bodyOf (KK w) 35).drop 13)
      (fun fl h => Ext h₀ h ∧ Val h (Old h₀) (match fl with | .ret v => v | _ => .none) (.int (dpGo a b m b.length 0 ((List.range a.length).map fun (i : Nat) => 2 + (i : Int) * 2) 0))) := by
  have hLa := T_length a
  have hLb := T_length b
  have hr := range_two a.length (by omega)
  generalize hrow : ((List.range a.length).map fun (i : Nat) => 2 + (i : Int) * 2) = row0
  have hrl : row0.length = a.length := by rw [← hrow]; simp
  refine' Ex.own (vs' := fun l => lv a b m (.val (.int pz)) (.val (.int qz)) (.own l false (row0.map .int)) .free .free .free .free .free .free .free .free) (EvN.to (EvN.listRange ?n1 ?k1 (EvR.to (EvR.of3 ?n2 ?k2 ?e1 ?e2 ?e3 ?ne ?pl ?s1 ?s2 ?s3 rfl) rfl ?r2 rfl) hr.1 hr.2 ?le ?s4) ?xs) (fun l => ?u) (fun l => ?_) rfl
  case n1 => kernel_rfl
  case k1 => walk_at "d.kind"
  case n2 => kernel_rfl
  case k2 => walk_at "d.kind"
  case e1 => walk_at "d.ev"
  case e2 => walk_at "d.ev"
  case e3 => walk_at "d.ev"
  case s1 => exact rfl
  case s2 => exact rfl
  case s3 => exact rfl
  case s4 => exact rfl
  case r2 => rw [hLa]
  case ne => decide
  case pl => exact PyProof.noPylong_small (by omega)
  case le => omega
  case u => walk_at "d.upd"
  case xs => rw [← hrow, List.map_map]; rfl
  walk_at "d.asg"
  have hr2 := range_up b.length (by omega)
  refine' Ex.forR (σ := List Int × Int) (len := b.length) (fun c => lv a b m (.val (.int pz)) (.val (.int qz)) (.own l false (c.1.map .int)) (.val (.int c.2)) .free .free .free .free .free .free .free)
    (fun j c => c.1.length = a.length ∧ dpGo a b m (b.length - j) j c.1 c.2 = dpGo a b m b.length 0 row0 0) (fun _ => False) (row0, 0) (EvR.to ?rg rfl ?r2 rfl) hr2.1 hr2.2 rfl ?p0 ?turn ?done ?brk (by intro _; rfl)
  case rg => walk_at "d.range1"
  case r2 => rw [hLb]
  case p0 => exact ⟨hrl, rfl⟩
  case brk => exact fun A R s E hS => hS.elim
  case done =>
    intro c hc
    obtain ⟨_, hc2⟩ := hc
    rw [← hc2, Nat.sub_self]
    refine' Ex.ret ?e ?_
    case e => walk_at "d.ev"
    exact fun h v S q => ⟨S.keep, q.flat (by constructor)⟩
  case turn =>
    intro j c hj hc
    obtain ⟨row, r⟩ := c
    obtain ⟨hc1, hc2⟩ := hc
    refine ⟨lv a b m (.val (.int pz)) (.val (.int qz)) (.own l false (row.map .int)) (.val (.int r)) (.val (.int (0 + (j : Int) * 1))) .free .free .free .free .free .free, ?u, ?body⟩
    case u => walk_at "d.upd"
    rw [show (0 + (j : Int) * 1) = j by omega]
    dsimp only at hc1 hc2
    have hsz := sizeLine_eq
    walk_at "d.asg"
    rw [item_at b j hj]
    refine' Ex.assign2 ?e ?u1 ?u2 ?_ rfl
    case e => walk_at "d.ev"
    case u1 => walk_at "d.upd"
    case u2 => walk_at "d.upd"
    walk_at "d.asg"
    rw [show (j : Int) * 2 = 2 * (j : Int) by omega]
    have hr3 := range_up a.length (by omega)
    refine' Ex.forR (σ := List Int × Int × Int × Int) (len := a.length) (fun c => lv a b m (.val (.int pz)) (.val (.int qz)) (.own l false (c.1.map .int)) (.val (.int c.2.2.1)) (.val (.int (j : Int))) (.val (.str (T [b.getD j 0]))) (.val (.int c.2.1)) (.val (.int c.2.2.2)) .free .free .free)
      (fun i c => c = ist (b.getD j 0) a (row, 2 * (j : Int), 2 * (j : Int), 9223372036854775807) i) (fun _ => False) (row, 2 * (j : Int), 2 * (j : Int), 9223372036854775807) (EvR.to ?rg rfl ?r2 rfl) hr3.1 hr3.2 rfl rfl ?turn ?done ?brk (by intro _; rfl)
    case rg => walk_at "d.range1"
    case r2 => rw [hLa]
    case brk => exact fun A R s E hS => hS.elim
    case done =>
      intro c hc
      have hcl : c.1.length = a.length := by rw [hc, ist_length]; exact hc1
      obtain ⟨c1, c2, c3, c4⟩ := c
      have hgo : dpGo a b m (b.length - j) j row r = if m < c4 then m + 1 else dpGo a b m (b.length - (j + 1)) (j + 1) c1 c3 := by
        obtain ⟨k, hk'⟩ : ∃ k, b.length - j = k + 1 := ⟨b.length - j - 1, by omega⟩
        rw [hk', show b.length - (j + 1) = k by omega]
        show (if m < (ist (b.getD j 0) a (row, 2 * (j : Int), 2 * (j : Int), 9223372036854775807) a.length).2.2.2 then m + 1 else dpGo a b m k (j + 1) (ist (b.getD j 0) a (row, 2 * (j : Int), 2 * (j : Int), 9223372036854775807) a.length).1 (ist (b.getD j 0) a (row, 2 * (j : Int), 2 * (j : Int), 9223372036854775807) a.length).2.2.1) = _
        rw [← hc]
      rw [hgo] at hc2
      by_cases hm : m < c4
      · rw [if_pos hm] at hc2
        rw [← hc2]
        refine' Ex.ite_tt (Te.to ?t1 (decide_eq_true hm)) ?_
        case t1 => walk_at "d.te"
        refine' Ex.ret ?e ?_
        case e => walk_at "d.ev"
        exact fun h v S q => ⟨S.keep, q.flat (by constructor)⟩
      · rw [if_neg hm] at hc2
        refine' Ex.ite_ff (Te.to ?t1 (decide_eq_false hm)) ?_
        case t1 => walk_at "d.te"
        refine Ex.nil fun h q => ⟨(c1, c3), ⟨hcl, hc2⟩, q.forget ?_⟩
        walk_at "d.fgt"
    case turn =>
      intro i c hi hc
      have hcl : c.1.length = a.length := by rw [hc, ist_length]; exact hc1
      obtain ⟨c1, c2, c3, c4⟩ := c
      dsimp only at hcl
      refine ⟨lv a b m (.val (.int pz)) (.val (.int qz)) (.own l false (c1.map .int)) (.val (.int c3)) (.val (.int (j : Int))) (.val (.str (T [b.getD j 0]))) (.val (.int c2)) (.val (.int c4)) (.val (.int (0 + (i : Int) * 1))) .free .free, ?iu, ?ibody⟩
      case iu => walk_at "d.upd"
      rw [show (0 + (i : Int) * 1) = i by omega]
      have hlen : (c1.map AV.int).length = a.length := by rw [List.length_map, hcl]
      have hgi := map_int_get c1 i (by omega)
      have hsub := sub_ok w (T [b.getD j 0]) (Txt.item (T a) (i : Int)) (by rw [T_length]; simp) (by rw [item_at a i hi, T_length]; simp)
      refine' Ex.assign (Ev.op ?f1 (Ev.to (c := .int (sc (b.getD j 0) (a.getD i 0))) (Ev.call ?g1 ?g2 rfl rfl ?g3 hsub ⟨_, _, rfl⟩ (by decide)) ?f2) op_add_int) ?f3 ?_ rfl
      case f1 => walk_at "d.ev"
      case g1 => kernel_rfl
      case g2 => walk_at "d.kind"
      case g3 => walk_at "d.evs"
      case f2 => rw [item_at a i hi]; rfl
      case f3 => walk_at "d.upd"
      walk_at "d.asg"
      walk_at "d.asg"
      walk_at "d.asg"
      refine' Ex.setItem (l := l) (xs := c1.map .int) (k := (i : Int)) ?m1 ?m2 ?m3 (by omega) (by omega) (by omega) ?m4 ?_ rfl (by decide)
      case m1 => walk_at "d.mem"
      case m2 => walk_at "d.ev"
      case m3 => walk_at "d.ev"
      case m4 => walk_at "d.upd"
      have hstep : ∀ c', c' = istep (b.getD j 0) a i (c1, c2, c3, c4) → c' = ist (b.getD j 0) a (row, 2 * (j : Int), 2 * (j : Int), 9223372036854775807) (i + 1) := by
        intro c' h'; rw [h', hc]; rfl
      have hset : (c1.map AV.int).set ((i : Nat) : Int).toNat (.int (min (min c3 (c1.getD i 0) + 2) (c2 + sc (b.getD j 0) (a.getD i 0)))) = (c1.set i (min (min c3 (c1.getD i 0) + 2) (c2 + sc (b.getD j 0) (a.getD i 0)))).map AV.int := by
        rw [Int.toNat_natCast, List.map_set]
      rw [hset]
      by_cases hlt : min (min c3 (c1.getD i 0) + 2) (c2 + sc (b.getD j 0) (a.getD i 0)) < c4
      · refine' Ex.ite_tt (Te.to ?w1 (decide_eq_true hlt)) ?_
        case w1 => walk_at "d.te"
        walk_at "d.asg"
        refine Ex.nil fun h q => ⟨_, hstep (c1.set i (min (min c3 (c1.getD i 0) + 2) (c2 + sc (b.getD j 0) (a.getD i 0))), c1.getD i 0, min (min c3 (c1.getD i 0) + 2) (c2 + sc (b.getD j 0) (a.getD i 0)), min (min c3 (c1.getD i 0) + 2) (c2 + sc (b.getD j 0) (a.getD i 0))) (by unfold istep; dsimp only; rw [if_pos hlt]), q.forget ?_⟩
        walk_at "d.fgt"
      · refine' Ex.ite_ff (Te.to ?w1 (decide_eq_false hlt)) ?_
        case w1 => walk_at "d.te"
        refine Ex.nil fun h q => ⟨_, hstep (c1.set i (min (min c3 (c1.getD i 0) + 2) (c2 + sc (b.getD j 0) (a.getD i 0))), c1.getD i 0, min (min c3 (c1.getD i 0) + 2) (c2 + sc (b.getD j 0) (a.getD i 0)), c4) (by unfold istep; dsimp only; rw [if_neg hlt]), q.forget ?_⟩
        walk_at "d.fgt"
end Mine

end T_LDb

section T_LVb
open PySem PySem.W PyProof.Rows PySem.Calls PySem.Spec
set_option linter.unusedVariables false
set_option linter.unusedSimpArgs false
set_option maxRecDepth 100000
namespace Mine
local macro_rules | `(tactic| walk_at "d.mem") => `(tactic| first | (with_reducible exact List.mem_cons_self) | ((with_reducible refine' List.mem_cons_of_mem _ ?_); walk_at "d.mem"))
local macro_rules | `(tactic| walk_at "d.upd") => `(tactic| first | (with_reducible exact Upd.head) | ((with_reducible refine' Upd.tail ?hu); (case hu => walk_at "d.upd")))
local macro_rules | `(tactic| walk_at "d.meth") => `(tactic| (unfold MethTree; exact rfl))
local macro_rules | `(tactic| walk_at "d.kind") => `(tactic| (refine' Kinds.get (by assumption) ?_; kernel_rfl))
local macro_rules | `(tactic| walk_at "d.num") => `(tactic| first | assumption | decide | omega | (simp only [sizeLine_eq] at *; omega))
local macro_rules | `(tactic| walk_at "d.op") => `(tactic| first
  | (with_reducible exact op_add_int) | (with_reducible exact op_sub_int) | (with_reducible exact op_eq_str) | (with_reducible exact op_ne_str) | (with_reducible exact op_eq_int) | (with_reducible exact op_ne_int)
  | (with_reducible exact op_lt_int) | (with_reducible exact op_le_int) | (with_reducible exact op_gt_int) | (with_reducible exact op_iadd_int) | (with_reducible exact op_isub_int)
  | ((with_reducible refine' op_add_str ?_); walk_at "d.num") | ((with_reducible refine' op_mul_int ?_); mul_fits))
local macro_rules | `(tactic| walk_at "d.tru") => `(tactic| first | (with_reducible exact tru_bool) | (with_reducible exact tru_none) | (with_reducible exact tru_int) | ((with_reducible refine' tru_str ?_); walk_at "d.num"))
local macro_rules | `(tactic| walk_at "d.ev") => `(tactic| first
  | (with_reducible exact Ev.cint) | (with_reducible exact Ev.cstr) | (with_reducible exact Ev.cbool) | (with_reducible exact Ev.cnone)
  | ((with_reducible refine' Ev.name ?hm ?hd); (case hd => decide); (case hm => walk_at "d.mem"))
  | ((with_reducible refine' Ev.op ?ha ?hb ?ho); (case ha => walk_at "d.ev"); (case hb => walk_at "d.ev"); (case ho => walk_at "d.op"))
  | ((with_reducible refine' Ev.cmp ?ha ?hb ?ho ?hm); (case ha => walk_at "d.ev"); (case hb => walk_at "d.ev"); (case ho => walk_at "d.op"); (case hm => with_unfolding_all rfl))
  | ((with_reducible refine' Ev.lower ?ha ?hn ?hm); (case ha => walk_at "d.ev"); (case hn => walk_at "d.num"); (case hm => walk_at "d.meth"))
  | ((with_reducible refine' Ev.upper ?ha ?hn ?hm); (case ha => walk_at "d.ev"); (case hn => walk_at "d.num"); (case hm => walk_at "d.meth"))
  | ((with_reducible refine' Ev.isupper ?ha ?hm); (case ha => walk_at "d.ev"); (case hm => walk_at "d.meth"))
  | ((with_reducible refine' Ev.strSlice ?ha ?hl ?hu ?hn); (case ha => walk_at "d.ev"); (case hl => walk_at "d.part"); (case hu => walk_at "d.part"); (case hn => walk_at "d.num"))
  | ((with_reducible refine' Ev.itemL (EvL.name ?hm ?hd) ?hb ?h0 ?ha ?hn ?hs); (case hm => walk_at "d.mem"); (case hd => decide); (case hb => walk_at "d.ev"); (case h0 => walk_at "d.num"); (case ha => assumption); (case hn => walk_at "d.num"); (case hs => (intro _ _; with_unfolding_all rfl)))
  | ((with_reducible refine' Ev.strItem ?ha ?hb ?hn ?h1 ?h2 ?hs); (case ha => walk_at "d.ev"); (case hb => walk_at "d.ev"); (case hn => walk_at "d.num"); (case h1 => walk_at "d.num"); (case h2 => walk_at "d.num"); (case hs => (intro _ _; with_unfolding_all rfl)))
  | ((with_reducible refine' Ev.lenStr ?hn ?hk ?ha ?hb ?hs); (case hn => kernel_rfl); (case hk => walk_at "d.kind"); (case ha => walk_at "d.ev"); (case hb => walk_at "d.num"); (case hs => exact rfl))
  | ((with_reducible refine' Ev.min2 ?hn ?hk ?ha ?hb ?hs ?ht ?hu); (case hn => kernel_rfl); (case hk => walk_at "d.kind"); (case ha => walk_at "d.ev"); (case hb => walk_at "d.ev"); (case hs => exact rfl); (case ht => exact rfl); (case hu => exact rfl))
  | ((with_reducible refine' Ev.typeStr ?hn ?hk ?ha ?hs); (case hn => kernel_rfl); (case hk => walk_at "d.kind"); (case ha => walk_at "d.ev"); (case hs => exact rfl))
  | ((with_reducible refine' Ev.isSub ?hn ?hk ?ha ?hb ?hs ?ht ?hu); (case hn => kernel_rfl); (case hk => walk_at "d.kind"); (case ha => walk_at "d.ev"); (case hb => walk_at "d.ev"); (case hs => exact rfl); (case ht => exact rfl); (case hu => exact rfl))
  | ((with_reducible refine' Ev.notBytes ?hn ?hk ?ha ?hb ?hs ?ht ?hu); (case hn => kernel_rfl); (case hk => walk_at "d.kind"); (case ha => walk_at "d.ev"); (case hb => walk_at "d.ev"); (case hs => exact rfl); (case ht => exact rfl); (case hu => exact rfl))
  | ((with_reducible refine' Ev.startswith ?ha ?hb ?hm ?hs); (case ha => walk_at "d.ev"); (case hb => walk_at "d.ev"); (case hm => walk_at "d.meth"); (case hs => exact rfl))
  | ((with_reducible refine' Ev.endswith ?ha ?hb ?hm ?hs); (case ha => walk_at "d.ev"); (case hb => walk_at "d.ev"); (case hm => walk_at "d.meth"); (case hs => exact rfl))
  | ((with_reducible refine' Ev.rfind ?ha ?hb ?hm ?hs); (case ha => walk_at "d.ev"); (case hb => walk_at "d.ev"); (case hm => walk_at "d.meth"); (case hs => exact rfl))
  | ((with_reducible refine' Ev.neg ?ha); (case ha => walk_at "d.ev"))
  | ((with_reducible refine' Ev.tuple ?ha ?hn); (case ha => walk_at "d.evs"); (case hn => exact (by simp [sizeLine_eq])))
  | ((with_reducible refine' Ev.globalInt ?hn ?hk ?hd); (case hn => exact rfl); (case hk => walk_at "d.kind"); (case hd => decide))
  | ((with_reducible refine' Ev.builtin ?hn ?hv ?hk ?hm ?hd); (case hn => kernel_rfl); (case hv => walk_at "d.boot"); (case hk => walk_at "d.kind"); (case hm => decide); (case hd => decide)))
local macro_rules | `(tactic| walk_at "d.boot") => `(tactic| first | (with_reducible exact boot_str_) | (with_reducible exact boot_bytes_))
local macro_rules | `(tactic| walk_at "d.part") => `(tactic| first | (with_reducible exact EvP.nothing) | ((with_reducible refine' EvP.num ?ha); (case ha => walk_at "d.ev")) | ((with_reducible refine' EvP.nil ?ha); (case ha => walk_at "d.ev")))
local macro_rules | `(tactic| walk_at "d.evs") => `(tactic| first | (with_reducible exact EvS.nil) | ((with_reducible refine' EvS.cons ?ha ?hb ?hs); (case ha => walk_at "d.ev"); (case hb => walk_at "d.evs"); (case hs => exact rfl)))
local macro_rules | `(tactic| walk_at "d.te") => `(tactic| first
  | ((with_reducible refine' Te.cmp ?ha ?hb ?ho ?hm); (case ha => walk_at "d.ev"); (case hb => walk_at "d.ev"); (case ho => walk_at "d.op"); (case hm => with_unfolding_all rfl))
  | ((with_reducible refine' Te.not ?ha); walk_at "d.te")
  | ((with_reducible refine' Te.plain ?ha ?hb ?hc); (case ha => walk_at "d.ev"); (case hb => walk_at "d.tru"); (case hc => exact rfl)))
local macro_rules | `(tactic| walk_at "d.ret") => `(tactic| (refine' Ex.ret ?e ?_; (case e => walk_at "d.ev"); exact fun h v S q => ⟨S.keep, q.flat (by constructor)⟩))
local macro_rules | `(tactic| walk_at "d.asg") => `(tactic| (refine' Ex.assign ?e ?u ?_ ?hs; (case e => walk_at "d.ev"); (case u => walk_at "d.upd"); (case hs => exact rfl)))
local macro_rules | `(tactic| walk_at "d.aug") => `(tactic| (refine' Ex.augm ?m ?e ?o ?u ?_; (case m => walk_at "d.mem"); (case e => walk_at "d.ev"); (case o => walk_at "d.op"); (case u => walk_at "d.upd")))
local macro_rules | `(tactic| walk_at "d.fgt") => `(tactic| first | (with_reducible exact Fgt.nil) | ((with_reducible refine' Fgt.same ?hu); (case hu => walk_at "d.fgt")) | ((with_reducible refine' Fgt.free ?hu); (case hu => walk_at "d.fgt")))
local macro_rules | `(tactic| walk_at "d.range1") => `(tactic| ((with_reducible refine' EvR.of1 ?hn ?hk ?ha ?hs); (case hn => kernel_rfl); (case hk => walk_at "d.kind"); (case ha => walk_at "d.ev"); (case hs => exact rfl)))
theorem slice_tail (l : List Nat) (k : Nat) (hk : k ≤ l.length) : Txt.slice (T l) none (if k = 0 then none else some (-(k : Int))) = T (l.take (l.length - k)) := by
  by_cases h0 : k = 0
  · subst h0; rw [if_pos rfl, slice_all]; simp
  · rw [if_neg h0, slice_neg l k (by omega) hk]
theorem len_tru (l : List Nat) (k : Nat) : (((T (l.take (l.length - k))).length : Int) != 0) = decide (k < l.length) := by
  rw [T_length, List.length_take, Bool.eq_iff_iff]
  simp only [bne_iff_ne, ne_eq, decide_eq_true_eq]
  omega
theorem len_tru0 (l : List Nat) : (((T l).length : Int) != 0) = decide (l ≠ []) := by
  rw [T_length, Bool.eq_iff_iff]
  simp only [bne_iff_ne, ne_eq, decide_eq_true_eq]
  cases l <;> simp
  omega
theorem rev_getD (l : List Nat) (k : Nat) (hk : k < l.length) : l.reverse.getD k 0 = l.getD (l.length - (k + 1)) 0 := by
  rw [List.getD_eq_getElem?_getD, List.getD_eq_getElem?_getD, List.getElem?_reverse hk]
  congr 2; omega

set_option maxHeartbeats 8000000 in
theorem lev_ok (w : World) (la lb : List Nat) (m : Int) (ha : la.length ≤ 1000) (hb : lb.length ≤ 1000) : CallP PG w (KK w) 2 35 [.str (T la), .str (T lb), .int m] (.int (lev la lb m)) := by
  refine CallP.def (ps := ["a", "b", "max_cost"]) (ls := ["pre", "post", "row", "result", "bindex", "bchar", "distance", "minimum", "index", "substitute", "insert_delete"]) (fun _ => No) rfl rfl (by kernel_rfl) rfl rfl (by kernel_rfl) rfl rfl rfl (by decide +kernel) (by kernel_rfl) rfl (fun us h => match us, h with | [u, v, x], _ => rfl) (fun _ _ h => h) (fun _ _ h => h.elim) ?_
  intro env h₀ hk hc B
  (try dsimp only at hk)
  have hLa := T_length la
  have hLb := T_length lb
  refine Ex.pre (S := StS (KK w) env h₀ No (lv la lb m .free .free .free .free .free .free .free .free .free .free .free)) ?_ (fun h q => q)
  by_cases hab : la = lb
  · refine' Ex.ite_tt (Te.to ?t1 ?t2) ?_
    case t1 => walk_at "d.te"
    case t2 => rw [T_beq]; simpa using hab
    rw [show lev la lb m = 0 by simp [lev, hab]]
    walk_at "d.ret"
  refine' Ex.ite_ff (Te.to ?t1 ?t2) ?_
  case t1 => walk_at "d.te"
  case t2 => rw [T_beq]; simpa using hab
  refine' Ex.assign ?e ?u ?_ ?hs
  case e => walk_at "d.ev"
  case u => walk_at "d.upd"
  case hs => exact rfl
  have hcl := cpl_le la lb
  refine Ex.while (σ := Nat) (fun p => (lv la lb m (.val (.int (p : Int))) .free .free .free .free .free .free .free .free .free .free))
    (fun p => p ≤ cpl la lb) (fun p => la.length - p) (fun p => decide (p < cpl la lb)) 0 (Nat.zero_le _) rfl ?_ ?_ ?_
  · intro p hp
    have key := cpl_lt la lb p hp
    have e1 := slice_from la p (by omega)
    have e2 := slice_from lb p (by omega)
    have l1 : (T (la.drop p)).length = la.length - p := by rw [T_length]; simp
    have l2 : (T (lb.drop p)).length = lb.length - p := by rw [T_length]; simp
    have l1' := Txt.slice_le (T la) (some (p : Int)) none
    have l2' := Txt.slice_le (T lb) (some (p : Int)) none
    by_cases h1 : p < la.length
    · refine' Te.and_tt (Te.to ?a1 ?a2) ?_
      case a1 => walk_at "d.te"
      case a2 => rw [e1, l1]; simp; omega
      by_cases h2 : p < lb.length
      · refine' Te.and_tt (Te.to ?a1 ?a2) ?_
        case a1 => walk_at "d.te"
        case a2 => rw [e2, l2]; simp; omega
        by_cases h3 : la.getD p 0 = lb.getD p 0
        · rw [decide_eq_true (key.mpr ⟨h1, h2, h3⟩)]
          refine' Te.and_tt (Te.to ?a1 ?a2) Te.and_nil
          case a1 => walk_at "d.te"
          case a2 => rw [item_at la p h1, item_at lb p h2, h3]; simp
        · rw [decide_eq_false (fun q => h3 (key.mp q).2.2)]
          refine' Te.and_ff (Te.to ?a1 ?a2)
          case a1 => walk_at "d.te"
          case a2 => rw [item_at la p h1, item_at lb p h2, T_beq]; simpa using h3
      · rw [decide_eq_false (fun q => h2 (key.mp q).2.1)]
        refine' Te.and_ff (Te.to ?a1 ?a2)
        case a1 => walk_at "d.te"
        case a2 => rw [e2, l2]; simp; omega
    · rw [decide_eq_false (fun q => h1 (key.mp q).1)]
      refine' Te.and_ff (Te.to ?a1 ?a2)
      case a1 => walk_at "d.te"
      case a2 => rw [e1, l1]; simp; omega
  · intro p hp hlt
    have hlt' : p < cpl la lb := of_decide_eq_true hlt
    walk_at "d.aug"
    refine Ex.nil fun h q => ⟨p + 1, by omega, by omega, ?_⟩
    exact q
  · intro p hp hge
    have hpe : p = cpl la lb := by have := of_decide_eq_false hge; omega
    subst hpe
    walk_at "d.asg"
    rw [slice_from la _ hcl.1]
    walk_at "d.asg"
    rw [slice_from lb _ hcl.2]
    walk_at "d.asg"
    have hlev : lev la lb m = levT ((la.drop (cpl la lb)).take ((la.drop (cpl la lb)).length - cpl (la.drop (cpl la lb)).reverse (lb.drop (cpl la lb)).reverse)) ((lb.drop (cpl la lb)).take ((lb.drop (cpl la lb)).length - cpl (la.drop (cpl la lb)).reverse (lb.drop (cpl la lb)).reverse)) m := by
      unfold lev; rw [if_neg hab]
    rw [hlev]
    have hda : (la.drop (cpl la lb)).length ≤ 1000 := by simp; omega
    have hdb : (lb.drop (cpl la lb)).length ≤ 1000 := by simp; omega
    clear hlev hge hp hab hLa hLb
    revert hda hdb
    generalize (la.drop (cpl la lb)) = a1, (lb.drop (cpl la lb)) = b1, ((cpl la lb : Nat) : Int) = pz
    clear hcl ha hb
    intro ha hb
    have hLa := T_length a1
    have hLb := T_length b1
    have hcl := cpl_le a1.reverse b1.reverse
    rw [List.length_reverse, List.length_reverse] at hcl
    refine Ex.while (σ := Nat) (fun k => (lv a1 b1 m (.val (.int pz)) (.val (.int (-(k : Int)))) .free .free .free .free .free .free .free .free .free))
      (fun k => k ≤ cpl a1.reverse b1.reverse) (fun k => a1.length - k) (fun k => decide (k < cpl a1.reverse b1.reverse)) 0 (Nat.zero_le _) rfl ?_ ?_ ?_
    · intro k hk'
      have key := cpl_lt a1.reverse b1.reverse k hk'
      rw [List.length_reverse, List.length_reverse] at key
      have part : ∀ p1 p2 p3, EvP PG w (KK w) 1 env No (lv a1 b1 m (.val (.int pz)) (.val (.int (-(k : Int)))) .free .free .free .free .free .free .free .free .free)
          (some (.BoolOp .Or [.Name "post" p1, .Constant .none 0 p2] p3)) (if k = 0 then none else some (-(k : Int))) := by
        intro p1 p2 p3
        by_cases h0 : k = 0
        · rw [if_pos h0]
          refine' EvP.nil (Ev.or_ff ?x1 ?x2 ?x3)
          case x1 => walk_at "d.ev"
          case x2 => subst h0; exact tru_int
          case x3 => walk_at "d.ev"
        · rw [if_neg h0]
          refine' EvP.num (Ev.or_tt ?x1 ?x2)
          case x1 => walk_at "d.ev"
          case x2 =>
            have e : (-(k : Int) != 0) = true := by simp; omega
            rw [← e]; exact tru_int
      have ta : k ≤ a1.length → ∀ p0 p1 p2 p3 p4 p5, Te PG w (KK w) 1 env No (lv a1 b1 m (.val (.int pz)) (.val (.int (-(k : Int)))) .free .free .free .free .free .free .free .free .free)
          (.Subscript (.Name "a" p0) (.Slice none (some (.BoolOp .Or [.Name "post" p1, .Constant .none 0 p2] p3)) none p4) p5) (decide (k < a1.length)) := by
        intro hka p0 p1 p2 p3 p4 p5
        refine' Te.to (Te.plain (Ev.to (Ev.strSlice ?x1 EvP.nothing (part p1 p2 p3) ?x2) ?x3) ?x4 ?x5) ?x6
        case x1 => walk_at "d.ev"
        case x2 => walk_at "d.num"
        case x3 => exact congrArg AV.str (slice_tail a1 k hka)
        case x4 => exact tru_str (by rw [T_length]; simp [sizeLine_eq]; omega)
        case x5 => exact rfl
        case x6 => exact len_tru _ _
      have tb : k ≤ b1.length → ∀ p0 p1 p2 p3 p4 p5, Te PG w (KK w) 1 env No (lv a1 b1 m (.val (.int pz)) (.val (.int (-(k : Int)))) .free .free .free .free .free .free .free .free .free)
          (.Subscript (.Name "b" p0) (.Slice none (some (.BoolOp .Or [.Name "post" p1, .Constant .none 0 p2] p3)) none p4) p5) (decide (k < b1.length)) := by
        intro hkb p0 p1 p2 p3 p4 p5
        refine' Te.to (Te.plain (Ev.to (Ev.strSlice ?x1 EvP.nothing (part p1 p2 p3) ?x2) ?x3) ?x4 ?x5) ?x6
        case x1 => walk_at "d.ev"
        case x2 => walk_at "d.num"
        case x3 => exact congrArg AV.str (slice_tail b1 k hkb)
        case x4 => exact tru_str (by rw [T_length]; simp [sizeLine_eq]; omega)
        case x5 => exact rfl
        case x6 => exact len_tru _ _
      by_cases h1 : k < a1.length
      · refine Te.and_tt (Te.to (ta (by omega) _ _ _ _ _ _) (decide_eq_true h1)) ?_
        by_cases h2 : k < b1.length
        · refine Te.and_tt (Te.to (tb (by omega) _ _ _ _ _ _) (decide_eq_true h2)) ?_
          have e1 : Txt.item (T a1) (-(k : Int) - 1) = T [a1.reverse.getD k 0] := by
            rw [show -(k : Int) - 1 = -((k + 1 : Nat) : Int) by omega, item_neg a1 (k + 1) (by omega) (by omega), rev_getD a1 k h1]
          have e2 : Txt.item (T b1) (-(k : Int) - 1) = T [b1.reverse.getD k 0] := by
            rw [show -(k : Int) - 1 = -((k + 1 : Nat) : Int) by omega, item_neg b1 (k + 1) (by omega) (by omega), rev_getD b1 k h2]
          by_cases h3 : a1.reverse.getD k 0 = b1.reverse.getD k 0
          · rw [decide_eq_true (key.mpr ⟨h1, h2, h3⟩)]
            refine' Te.and_tt (Te.to ?a1 ?a2) Te.and_nil
            case a1 => walk_at "d.te"
            case a2 => rw [e1, e2, h3]; simp
          · rw [decide_eq_false (fun q => h3 (key.mp q).2.2)]
            refine' Te.and_ff (Te.to ?a1 ?a2)
            case a1 => walk_at "d.te"
            case a2 => rw [e1, e2, T_beq]; simpa using h3
        · rw [decide_eq_false (fun q => h2 (key.mp q).2.1)]
          exact Te.and_ff (Te.to (tb (by omega) _ _ _ _ _ _) (decide_eq_false h2))
      · rw [decide_eq_false (fun q => h1 (key.mp q).1)]
        exact Te.and_ff (Te.to (ta (by omega) _ _ _ _ _ _) (decide_eq_false h1))
    · intro k hk' hlt
      have hlt' : k < cpl a1.reverse b1.reverse := of_decide_eq_true hlt
      walk_at "d.aug"
      refine Ex.nil fun h q => ⟨k + 1, by omega, by omega, ?_⟩
      rw [show -(k : Int) - 1 = -((k + 1 : Nat) : Int) by omega] at q
      exact q
    · intro k hk' hge
      have hke : k = cpl a1.reverse b1.reverse := by have := of_decide_eq_false hge; omega
      have part : ∀ (A1 : List Nat) p1 p2 p3, EvP PG w (KK w) 1 env No (lv A1 b1 m (.val (.int pz)) (.val (.int (-(k : Int)))) .free .free .free .free .free .free .free .free .free)
          (some (.BoolOp .Or [.Name "post" p1, .Constant .none 0 p2] p3)) (if k = 0 then none else some (-(k : Int))) := by
        intro A1 p1 p2 p3
        by_cases h0 : k = 0
        · rw [if_pos h0]
          refine' EvP.nil (Ev.or_ff ?x1 ?x2 ?x3)
          case x1 => walk_at "d.ev"
          case x2 => subst h0; exact tru_int
          case x3 => walk_at "d.ev"
        · rw [if_neg h0]
          refine' EvP.num (Ev.or_tt ?x1 ?x2)
          case x1 => walk_at "d.ev"
          case x2 =>
            have e : (-(k : Int) != 0) = true := by simp; omega
            rw [← e]; exact tru_int
      refine' Ex.assign (Ev.to (Ev.strSlice ?x1 EvP.nothing (part a1 _ _ _) ?x2) (congrArg AV.str (slice_tail a1 k (by omega)))) ?u ?_ rfl
      case x1 => walk_at "d.ev"
      case x2 => walk_at "d.num"
      case u => walk_at "d.upd"
      refine' Ex.assign (Ev.to (Ev.strSlice ?x1 EvP.nothing (part (a1.take (a1.length - k)) _ _ _) ?x2) (congrArg AV.str (slice_tail b1 k (by omega)))) ?u ?_ rfl
      case x1 => walk_at "d.ev"
      case x2 => walk_at "d.num"
      case u => walk_at "d.upd"
      rw [← hke]
      have hda : (a1.take (a1.length - k)).length ≤ 1000 := by simp; omega
      have hdb : (b1.take (b1.length - k)).length ≤ 1000 := by simp; omega
      clear hke hge hk' hLa hLb part
      revert hda hdb
      generalize (a1.take (a1.length - k)) = a2, (b1.take (b1.length - k)) = b2, -(k : Int) = qz
      clear hcl ha hb a1 b1
      intro ha hb
      have hLa := T_length a2
      have hLb := T_length b2
      have ta : ∀ p, Te PG w (KK w) 1 env No (lv a2 b2 m (.val (.int pz)) (.val (.int qz)) .free .free .free .free .free .free .free .free .free) (.Name "a" p) (decide (a2 ≠ [])) := by
        intro p; refine' Te.to ?x (len_tru0 _); case x => walk_at "d.te"
      have tb : ∀ p, Te PG w (KK w) 1 env No (lv a2 b2 m (.val (.int pz)) (.val (.int qz)) .free .free .free .free .free .free .free .free .free) (.Name "b" p) (decide (b2 ≠ [])) := by
        intro p; refine' Te.to ?x (len_tru0 _); case x => walk_at "d.te"
      by_cases hnil : a2 = [] ∨ b2 = []
      · rw [show levT a2 b2 m = 2 * ((a2.length : Int) + b2.length) by unfold levT; rw [if_pos hnil]]
        refine Ex.ite_tt (Te.to (Te.or2 (Te.not (ta _)) (fun _ => Te.not (tb _))) ?_) ?_
        · rcases hnil with h | h <;> simp [h]
        rw [← hLa, ← hLb]
        walk_at "d.ret"
      refine Ex.ite_ff (Te.to (Te.or2 (Te.not (ta _)) (fun _ => Te.not (tb _))) ?_) ?_
      · simp; exact ⟨fun h => hnil (.inl h), fun h => hnil (.inr h)⟩
      clear ta tb
      by_cases h40 : 40 < a2.length ∨ 40 < b2.length
      · rw [show levT a2 b2 m = m + 1 by unfold levT; rw [if_neg hnil, if_pos h40]]
        refine' Ex.ite_tt ?t ?_
        case t =>
          by_cases h1 : 40 < a2.length
          · refine' Te.or_tt (Te.to ?a1 ?a2)
            case a1 => walk_at "d.te"
            case a2 => simp; omega
          · refine' Te.or_ff (Te.to ?a1 ?a2) (Te.or_tt (Te.to ?b1 ?b2))
            case a1 => walk_at "d.te"
            case a2 => simp; omega
            case b1 => walk_at "d.te"
            case b2 => simp; omega
        walk_at "d.ret"
      refine' Ex.ite_ff ?t ?_
      case t =>
        refine' Te.or_ff (Te.to ?a1 ?a2) (Te.or_ff (Te.to ?b1 ?b2) Te.or_nil)
        case a1 => walk_at "d.te"
        case a2 => simp; omega
        case b1 => walk_at "d.te"
        case b2 => simp; omega
      have hT : levT a2 b2 m = if b2.length < a2.length then levD b2 a2 m else levD a2 b2 m := by unfold levT; rw [if_neg hnil, if_neg h40]
      rw [hT]
      clear hT
      refine Ex.ite (b := decide (b2.length < a2.length)) ?t (Ex.seq (T := fun h => ∃ c : List Nat × List Nat, c = (if b2.length < a2.length then (b2, a2) else (a2, b2)) ∧ StS (KK w) env h₀ No (lv c.1 c.2 m (.val (.int pz)) (.val (.int qz)) .free .free .free .free .free .free .free .free .free) h) ?br (Ex.ghost fun c => Ex.fact fun hce => ?_))
      case t =>
        refine' Te.to ?a1 ?a2
        case a1 => walk_at "d.te"
        case a2 => rw [Bool.eq_iff_iff]; simp only [decide_eq_true_eq]; omega
      case br =>
        by_cases hlt : b2.length < a2.length
        · simp only [decide_eq_true hlt, if_true]
          refine' Ex.swap (ps := [("a", .str (T b2)), ("b", .str (T a2))]) ?e (Upds.cons (x := "b") (a := .str (T a2)) ?u1 (Upds.cons (x := "a") (a := .str (T b2)) ?u2 Upds.nil)) (Ex.nil fun h q => ⟨(b2, a2), by rw [if_pos hlt], q⟩) ?w rfl
          case e =>
            refine' Ev.to (a := .tup [.str (T b2), .str (T a2)]) ?e1 rfl
            case e1 => walk_at "d.ev"
          case u1 => walk_at "d.upd"
          case u2 => walk_at "d.upd"
          case w => exact swapped_two hk.2 (hk.get (by kernel_rfl)) (hk.get (by kernel_rfl)) rfl (by decide) rfl rfl rfl rfl
        · simp only [decide_eq_false hlt, Bool.false_eq_true, if_false]
          exact Ex.nil fun h q => ⟨(a2, b2), by rw [if_neg hlt], q⟩
      obtain ⟨a3, b3⟩ := c
      have hD : (if b2.length < a2.length then levD b2 a2 m else levD a2 b2 m) = levD a3 b3 m := by
        by_cases hlt : b2.length < a2.length
        · rw [if_pos hlt] at hce ⊢; cases hce; rfl
        · rw [if_neg hlt] at hce ⊢; cases hce; rfl
      rw [hD]
      have h3 : a3.length ≤ 40 ∧ b3.length ≤ 40 ∧ a3.length ≤ b3.length := by
        by_cases hlt : b2.length < a2.length
        · rw [if_pos hlt] at hce; cases hce; omega
        · rw [if_neg hlt] at hce; cases hce; omega
      clear hD hce h40 hnil hLa hLb ha hb
      have hLa := T_length a3
      have hLb := T_length b3
      dsimp only
      obtain ⟨h3a, h3b, h3c⟩ := h3
      by_cases hm : m < ((b3.length : Int) - a3.length) * 2
      · rw [show levD a3 b3 m = m + 1 by unfold levD; rw [if_pos hm]]
        refine' Ex.ite_tt (Te.to ?t1 ?t2) ?_
        case t1 => walk_at "d.te"
        case t2 => rw [hLa, hLb]; exact decide_eq_true hm
        walk_at "d.ret"
      rw [show levD a3 b3 m = dpGo a3 b3 m b3.length 0 ((List.range a3.length).map fun (i : Nat) => 2 + (i : Int) * 2) 0 by unfold levD; rw [if_neg hm]]
      refine' Ex.ite_ff (Te.to ?t1 ?t2) ?_
      case t1 => walk_at "d.te"
      case t2 => rw [hLa, hLb]; exact decide_eq_false hm
      exact lev_dp w env h₀ hk h3a h3b pz qz
end Mine

end T_LVb

section T_DI
open PySem PySem.W PyProof.Rows PySem.Calls PySem.Spec
set_option linter.unusedVariables false
set_option linter.unusedSimpArgs false
set_option maxRecDepth 100000
namespace Mine
section
variable {prog : Program} {w : World} {A : Around} {E : Value → Shared → Prop} {s : Shared} {Q : Value → Shared → Prop}

theorem kind_issubclass : builtinKind "issubclass" = none := by decide +kernel
theorem plain_issubclass : plainId "issubclass" = true := by decide +kernel
theorem args_issubclass (a b : Value) : argsOk "issubclass" ⟨[a, b], []⟩ := by unfold argsOk; kernel_rfl
theorem entry_issubclass : entryFor table "issubclass" = some Builtin.«issubclass» := entryFor_of_tree (by kernel_rfl)
theorem entry_issubclass_nested : entryFor table "issubclass.nested" = some Builtin.«issubclass.nested» := entryFor_of_tree (by kernel_rfl)
theorem kind_isn : builtinKind "issubclass.nested" = none := by decide +kernel
theorem plain_isn : plainId "issubclass.nested" = true := by decide +kernel
theorem args_isn (a b c : Value) : argsOk "issubclass.nested" ⟨[a, b, c], []⟩ := by unfold argsOk; kernel_rfl
theorem nested_str : Builtin.«issubclass.nested» ⟨[.type "str", .type "str", rawInt 1], []⟩ = pure (.done (.ret (.bool true))) := by kernel_rfl
theorem isSub_tuple : isSubtype (.type "tuple") (.type "tuple") = pure true := isSubtype_tuple_tuple

theorem nested_tuple {t : Addr} {o : Obj} {nn : Nat} {QF : Fin → Shared → Prop} (ho : s.heap.get? t = some o) (hc : o.cls = .type "tuple") (hd : o.data = .seq #[.type "str", .type "bytes"] nn) (h : QF (.done (.ret (.bool true))) s) :
    wpAny (model prog w) A (Builtin.«issubclass.nested» ⟨[.type "str", .ref t, rawInt 0], []⟩) QF E s := by
  have hT : s.TypeIs (.ref t) "tuple" := ⟨o, ho, hc⟩
  unfold Builtin.«issubclass.nested»
  refine wpAny_bind (m := typeOf (.ref t)) (wpAny_typeOf hT ?_)
  rw [if_neg (by decide)]
  refine wpAny_bind (m := Builtin.Builtins.unionMembers (.ref t)) ?_
  unfold Builtin.Builtins.unionMembers
  refine wpAny_bind (m := typeOf (.ref t)) (wpAny_typeOf hT ?_)
  rw [if_neg (by decide)]
  refine wpAny_pure ?_
  refine wpAny_bind (m := isInstance (.ref t) (.type "tuple")) (wpAny_isInstance hT isSub_tuple ?_)
  rw [if_pos rfl, if_neg (by decide)]
  refine wpAny_bind (m := seqItems? (.ref t)) (wpAny_seqItems ho hd ?_)
  rw [show (some #[Value.type "str", Value.type "bytes"]).getD #[] = #[Value.type "str", Value.type "bytes"] from rfl, ← Array.forIn_toList, show (#[Value.type "str", Value.type "bytes"] : Array Value).toList = [Value.type "str", Value.type "bytes"] from rfl, List.forIn_cons]
  refine wpAny_bind (wpAny_bind (wpAny_bind (m := call (.builtin "issubclass.nested") [.type "str", .type "str", rawInt (0 + 1)]) (call_function_entry kind_isn plain_isn entry_issubclass_nested (args_isn _ _ _) ?_)))
  rw [show (rawInt (0 + 1)) = rawInt 1 from rfl, nested_str]
  refine wpAny_pure ⟨_, rfl, ?_⟩
  refine wpAny_bind (wpAny_truthy_bool ?_)
  rw [if_pos rfl]
  refine wpAny_bind (wpAny_pure (wpAny_pure (wpAny_pure ?_)))
  exact wpAny_pure h
theorem call_issubclass {t : Addr} {o : Obj} {nn : Nat} (ho : s.heap.get? t = some o) (hc : o.cls = .type "tuple") (hd : o.data = .seq #[.type "str", .type "bytes"] nn) (h : Q (.bool true) s) :
    wpAny (model prog w) A (call (.builtin "issubclass") [.type "str", .ref t]) Q E s := by
  refine wpAny_call (codeAny_call_builtin plain_issubclass entry_issubclass ?_)
  have ha := args_issubclass (.type "str") (.ref t)
  have fin : wpAny (model prog w) A.in1 (Builtin.«issubclass» ⟨[.type "str", .ref t], []⟩)
      (fun fin s' => match fin with
        | .done f => (match (Except.ok f : Result) with | .ok (.ret v) => Q v s' | .ok _ => False | .error e => E e s')
        | .again c' => c'.quiet = true ∧ codeAny (model prog w) A c' (fun r s' => match r with | .ok (.ret v) => Q v s' | .ok _ => False | .error e => E e s') s') E s := by
    unfold Builtin.«issubclass»
    refine wpAny_bind (m := someArgs "issubclass" 2 2 _) (wpAny_of_eq (a := [.type "str", .ref t]) rfl ?_)
    refine wpAny_pure ⟨Code.quiet_builtin _ (by decide +kernel), codeAny_builtin entry_issubclass_nested ?_⟩
    exact nested_tuple ho hc hd h
  simp only [checkBuiltinCall, kind_issubclass]
  cases hsig : Manifest.signature? "issubclass" with
  | none => exact wpAny_pure fin
  | some sig =>
    simp only [argsOk, hsig] at ha
    have h2 : Bind.checkArgs "issubclass" sig ⟨[.type "str", .ref t], []⟩ = pure () := ha
    show wpAny _ A.in1 (Bind.checkArgs "issubclass" sig ⟨_, []⟩) _ _ s
    rw [h2]; exact wpAny_pure fin
end
section
variable {prog : Program} {w : World} {K : Frag} {n : Nat} {env : Env} {ex : Addr → Prop} {vs : Vars}
/-- a type called with plain arguments -/
theorem Ev.tcall {x : Str} {T : String} {p pos : Pos} {e : Expr} {rest : List Expr} {as : List AV} {r : AV} (hn : nsIn K mainGlobals x = some none) (hv : bootBuiltins x = some (.type T)) (hx : env.kindOf x = some .globalImplicit)
    (ha : EvS prog w K n env ex vs (e :: rest) as)
    (hc : ∀ (A : Around), Room n A → ∀ (s : Shared) (us : List Value) (Q : Value → Shared → Prop) (E : Value → Shared → Prop), There ex s.heap → Vals s.heap ex us as → (∀ v s', Grown s s' → Val s'.heap ex v r → Q v s') → wpAny (model prog w) A (PySem.call (.type T) us) Q E s)
    (h1 : starEach (e :: rest) env = (false, eval e env) :: starEach rest env) (h2 : (backTo pos (starEach rest env)).any (·.1) = false) (hn' : x ≠ "__name__" := by decide) (hdd : (x == ("__debug__" : Str)) = false := by decide) :
    Ev prog w K n env ex vs (.Call (.Name x p) (e :: rest) [] pos) r := by
  intro A R s Q E S h
  rw [eval_Call_Name]
  refine wpAny_bind (Ev.builtin (prog := prog) (w := w) (n := n) hn hv hx hn' hdd A R s _ _ S fun v s₁ g₁ q₁ => ?_)
  cases q₁
  refine PyProof.Rows.callWith_type1 (ha A R pos s₁ _ _ (S.up g₁) fun us s₂ g₂ q₂ => ?_) h1 h2
  exact hc A R s₂ us Q E ((S.up g₁).up g₂).there q₂ fun v s₃ g₃ q₃ => h v s₃ ((g₁.trans g₂).trans g₃) q₃
theorem Ev.typeStr {p pos : Pos} {e : Expr} {y : Str} (hn : nsIn K mainGlobals "type" = some none) (hx : env.kindOf "type" = some .globalImplicit) (he : Ev prog w K n env ex vs e (.str y)) (h1 : starEach [e] env = (false, eval e env) :: starEach [] env) :
    Ev prog w K n env ex vs (.Call (.Name "type" p) [e] [] pos) (.raw (.type "str")) :=
  Ev.tcall hn (by decide +kernel : bootBuiltins "type" = some (.type "type")) hx (EvS.cons he EvS.nil h1) (fun A R s us Q E T q h => by
    cases q with | cons a b => cases a; cases b; exact call_type_of (typeIs_str _ _ _) (by decide +kernel) (h _ _ (Grown.refl s) (.raw _))) h1 rfl
theorem Ev.isSub {p pos : Pos} {e f : Expr} (hn : nsIn K mainGlobals "issubclass" = some none) (hx : env.kindOf "issubclass" = some .globalImplicit) (he : Ev prog w K n env ex vs e (.raw (.type "str"))) (hf : Ev prog w K n env ex vs f (.tup [.raw (.type "str"), .raw (.type "bytes")]))
    (h1 : starEach [e, f] env = (false, eval e env) :: starEach [f] env) (h2 : starEach [f] env = (false, eval f env) :: starEach [] env) (h3 : (backTo pos (starEach [f] env)).any (·.1) = false := by rfl) :
    Ev prog w K n env ex vs (.Call (.Name "issubclass" p) [e, f] [] pos) (.bool true) :=
  Ev.bcall hn (by decide +kernel : bootBuiltins "issubclass" = some (.builtin "issubclass")) hx (EvS.cons he (EvS.cons hf EvS.nil h2) h1) (fun A R s us Q E T q h => by
    cases q with
    | cons a b =>
    cases b with
    | cons c d =>
    cases d
    cases a
    cases c with
    | tup _ il q =>
    cases q with
    | cons q1 q =>
    cases q with
    | cons q2 q =>
    cases q; cases q1; cases q2
    obtain ⟨o, ho, hc, nn, hd⟩ := il
    exact call_issubclass ho hc hd (h _ _ (Grown.refl s) (.bool _))) h1 h3
theorem Ev.notBytes {p pos : Pos} {e f : Expr} {y : Str} (hn : nsIn K mainGlobals "isinstance" = some none) (hx : env.kindOf "isinstance" = some .globalImplicit) (he : Ev prog w K n env ex vs e (.str y)) (hf : Ev prog w K n env ex vs f (.raw (.type "bytes")))
    (h1 : starEach [e, f] env = (false, eval e env) :: starEach [f] env) (h2 : starEach [f] env = (false, eval f env) :: starEach [] env) (h3 : (backTo pos (starEach [f] env)).any (·.1) = false := by rfl) :
    Ev prog w K n env ex vs (.Call (.Name "isinstance" p) [e, f] [] pos) (.bool false) :=
  Ev.bcall hn (by decide +kernel : bootBuiltins "isinstance" = some (.builtin "isinstance")) hx (EvS.cons he (EvS.cons hf EvS.nil h2) h1) (fun A R s us Q E T q h => by
    cases q with
    | cons a b =>
    cases b with
    | cons c d =>
    cases d
    cases a
    cases c
    exact IsiPair.str_bytes (h _ _ (Grown.tok s _) (.bool _))) h1 h3
end
end Mine

end T_DI

section T_PFb
open PySem PySem.W PyProof.Rows PySem.Calls PySem.Spec
set_option linter.unusedVariables false
set_option linter.unusedSimpArgs false
set_option maxRecDepth 100000
namespace Mine
theorem boot_str_ : bootBuiltins "str" = some (.type "str") := by decide +kernel
theorem boot_bytes_ : bootBuiltins "bytes" = some (.type "bytes") := by decide +kernel
local macro_rules | `(tactic| walk_at "d.mem") => `(tactic| first | (with_reducible exact List.mem_cons_self) | ((with_reducible refine' List.mem_cons_of_mem _ ?_); walk_at "d.mem"))
local macro_rules | `(tactic| walk_at "d.upd") => `(tactic| first | (with_reducible exact Upd.head) | ((with_reducible refine' Upd.tail ?hu); (case hu => walk_at "d.upd")))
local macro_rules | `(tactic| walk_at "d.meth") => `(tactic| (unfold MethTree; exact rfl))
local macro_rules | `(tactic| walk_at "d.kind") => `(tactic| (refine' Kinds.get (by assumption) ?_; kernel_rfl))
local macro_rules | `(tactic| walk_at "d.num") => `(tactic| first | assumption | decide | omega | (simp only [sizeLine_eq] at *; omega))
local macro_rules | `(tactic| walk_at "d.op") => `(tactic| first
  | (with_reducible exact op_add_int) | (with_reducible exact op_sub_int) | (with_reducible exact op_eq_str) | (with_reducible exact op_ne_str) | (with_reducible exact op_eq_int) | (with_reducible exact op_ne_int)
  | (with_reducible exact op_lt_int) | (with_reducible exact op_le_int) | (with_reducible exact op_gt_int) | (with_reducible exact op_iadd_int) | (with_reducible exact op_isub_int)
  | ((with_reducible refine' op_add_str ?_); walk_at "d.num") | ((with_reducible refine' op_mul_int ?_); mul_fits))
local macro_rules | `(tactic| walk_at "d.tru") => `(tactic| first | (with_reducible exact tru_bool) | (with_reducible exact tru_none) | (with_reducible exact tru_int) | ((with_reducible refine' tru_str ?_); walk_at "d.num"))
local macro_rules | `(tactic| walk_at "d.ev") => `(tactic| first
  | (with_reducible exact Ev.cint) | (with_reducible exact Ev.cstr) | (with_reducible exact Ev.cbool) | (with_reducible exact Ev.cnone)
  | ((with_reducible refine' Ev.name ?hm ?hd); (case hd => decide); (case hm => walk_at "d.mem"))
  | ((with_reducible refine' Ev.op ?ha ?hb ?ho); (case ha => walk_at "d.ev"); (case hb => walk_at "d.ev"); (case ho => walk_at "d.op"))
  | ((with_reducible refine' Ev.cmp ?ha ?hb ?ho ?hm); (case ha => walk_at "d.ev"); (case hb => walk_at "d.ev"); (case ho => walk_at "d.op"); (case hm => with_unfolding_all rfl))
  | ((with_reducible refine' Ev.lower ?ha ?hn ?hm); (case ha => walk_at "d.ev"); (case hn => walk_at "d.num"); (case hm => walk_at "d.meth"))
  | ((with_reducible refine' Ev.upper ?ha ?hn ?hm); (case ha => walk_at "d.ev"); (case hn => walk_at "d.num"); (case hm => walk_at "d.meth"))
  | ((with_reducible refine' Ev.isupper ?ha ?hm); (case ha => walk_at "d.ev"); (case hm => walk_at "d.meth"))
  | ((with_reducible refine' Ev.strSlice ?ha ?hl ?hu ?hn); (case ha => walk_at "d.ev"); (case hl => walk_at "d.part"); (case hu => walk_at "d.part"); (case hn => walk_at "d.num"))
  | ((with_reducible refine' Ev.itemL (EvL.name ?hm ?hd) ?hb ?h0 ?ha ?hn ?hs); (case hm => walk_at "d.mem"); (case hd => decide); (case hb => walk_at "d.ev"); (case h0 => walk_at "d.num"); (case ha => assumption); (case hn => walk_at "d.num"); (case hs => (intro _ _; with_unfolding_all rfl)))
  | ((with_reducible refine' Ev.strItem ?ha ?hb ?hn ?h1 ?h2 ?hs); (case ha => walk_at "d.ev"); (case hb => walk_at "d.ev"); (case hn => walk_at "d.num"); (case h1 => walk_at "d.num"); (case h2 => walk_at "d.num"); (case hs => (intro _ _; with_unfolding_all rfl)))
  | ((with_reducible refine' Ev.lenStr ?hn ?hk ?ha ?hb ?hs); (case hn => kernel_rfl); (case hk => walk_at "d.kind"); (case ha => walk_at "d.ev"); (case hb => walk_at "d.num"); (case hs => exact rfl))
  | ((with_reducible refine' Ev.min2 ?hn ?hk ?ha ?hb ?hs ?ht ?hu); (case hn => kernel_rfl); (case hk => walk_at "d.kind"); (case ha => walk_at "d.ev"); (case hb => walk_at "d.ev"); (case hs => exact rfl); (case ht => exact rfl); (case hu => exact rfl))
  | ((with_reducible refine' Ev.typeStr ?hn ?hk ?ha ?hs); (case hn => kernel_rfl); (case hk => walk_at "d.kind"); (case ha => walk_at "d.ev"); (case hs => exact rfl))
  | ((with_reducible refine' Ev.isSub ?hn ?hk ?ha ?hb ?hs ?ht ?hu); (case hn => kernel_rfl); (case hk => walk_at "d.kind"); (case ha => walk_at "d.ev"); (case hb => walk_at "d.ev"); (case hs => exact rfl); (case ht => exact rfl); (case hu => exact rfl))
  | ((with_reducible refine' Ev.notBytes ?hn ?hk ?ha ?hb ?hs ?ht ?hu); (case hn => kernel_rfl); (case hk => walk_at "d.kind"); (case ha => walk_at "d.ev"); (case hb => walk_at "d.ev"); (case hs => exact rfl); (case ht => exact rfl); (case hu => exact rfl))
  | ((with_reducible refine' Ev.startswith ?ha ?hb ?hm ?hs); (case ha => walk_at "d.ev"); (case hb => walk_at "d.ev"); (case hm => walk_at "d.meth"); (case hs => exact rfl))
  | ((with_reducible refine' Ev.endswith ?ha ?hb ?hm ?hs); (case ha => walk_at "d.ev"); (case hb => walk_at "d.ev"); (case hm => walk_at "d.meth"); (case hs => exact rfl))
  | ((with_reducible refine' Ev.rfind ?ha ?hb ?hm ?hs); (case ha => walk_at "d.ev"); (case hb => walk_at "d.ev"); (case hm => walk_at "d.meth"); (case hs => exact rfl))
  | ((with_reducible refine' Ev.neg ?ha); (case ha => walk_at "d.ev"))
  | ((with_reducible refine' Ev.tuple ?ha ?hn); (case ha => walk_at "d.evs"); (case hn => exact (by simp [sizeLine_eq])))
  | ((with_reducible refine' Ev.globalInt ?hn ?hk ?hd); (case hn => exact rfl); (case hk => walk_at "d.kind"); (case hd => decide))
  | ((with_reducible refine' Ev.builtin ?hn ?hv ?hk ?hm ?hd); (case hn => kernel_rfl); (case hv => walk_at "d.boot"); (case hk => walk_at "d.kind"); (case hm => decide); (case hd => decide)))
local macro_rules | `(tactic| walk_at "d.boot") => `(tactic| first | (with_reducible exact boot_str_) | (with_reducible exact boot_bytes_))
local macro_rules | `(tactic| walk_at "d.part") => `(tactic| first | (with_reducible exact EvP.nothing) | ((with_reducible refine' EvP.num ?ha); (case ha => walk_at "d.ev")) | ((with_reducible refine' EvP.nil ?ha); (case ha => walk_at "d.ev")))
local macro_rules | `(tactic| walk_at "d.evs") => `(tactic| first | (with_reducible exact EvS.nil) | ((with_reducible refine' EvS.cons ?ha ?hb ?hs); (case ha => walk_at "d.ev"); (case hb => walk_at "d.evs"); (case hs => exact rfl)))
local macro_rules | `(tactic| walk_at "d.te") => `(tactic| first
  | ((with_reducible refine' Te.cmp ?ha ?hb ?ho ?hm); (case ha => walk_at "d.ev"); (case hb => walk_at "d.ev"); (case ho => walk_at "d.op"); (case hm => with_unfolding_all rfl))
  | ((with_reducible refine' Te.not ?ha); walk_at "d.te")
  | ((with_reducible refine' Te.plain ?ha ?hb ?hc); (case ha => walk_at "d.ev"); (case hb => walk_at "d.tru"); (case hc => exact rfl)))
local macro_rules | `(tactic| walk_at "d.ret") => `(tactic| (refine' Ex.ret ?e ?_; (case e => walk_at "d.ev"); exact fun h v S q => ⟨S.keep, q.flat (by constructor)⟩))
local macro_rules | `(tactic| walk_at "d.asg") => `(tactic| (refine' Ex.assign ?e ?u ?_ ?hs; (case e => walk_at "d.ev"); (case u => walk_at "d.upd"); (case hs => exact rfl)))
local macro_rules | `(tactic| walk_at "d.aug") => `(tactic| (refine' Ex.augm ?m ?e ?o ?u ?_; (case m => walk_at "d.mem"); (case e => walk_at "d.ev"); (case o => walk_at "d.op"); (case u => walk_at "d.upd")))
local macro_rules | `(tactic| walk_at "d.fgt") => `(tactic| first | (with_reducible exact Fgt.nil) | ((with_reducible refine' Fgt.same ?hu); (case hu => walk_at "d.fgt")) | ((with_reducible refine' Fgt.free ?hu); (case hu => walk_at "d.fgt")))
local macro_rules | `(tactic| walk_at "d.range1") => `(tactic| ((with_reducible refine' EvR.of1 ?hn ?hk ?ha ?hs); (case hn => kernel_rfl); (case hk => walk_at "d.kind"); (case ha => walk_at "d.ev"); (case hs => exact rfl)))
theorem fspath_ok (w : World) (x : Str) : CallP PG w (KK w) 1 108 [.str x] (.str x) := by
  refine CallP.def (ps := ["path"]) (ls := ["kind", "hook", "given"]) (fun _ => No) rfl rfl (by kernel_rfl) rfl rfl (by kernel_rfl) rfl rfl rfl (by decide +kernel) (by kernel_rfl) rfl (fun us h => match us, h with | [u], _ => rfl) (fun _ _ h => h) (fun _ _ h => h.elim) ?_
  intro env h₀ hk hc B
  (try dsimp only at hk)
  refine Ex.pre (S := StS (KK w) env h₀ No [("path", .val (.str x)), ("kind", .free), ("hook", .free), ("given", .free)]) ?_ (fun h q => q)
  walk_at "d.asg"
  refine' Ex.ite_tt (Te.plain ?t1 tru_bool rfl) ?_
  case t1 => walk_at "d.ev"
  walk_at "d.ret"
theorem sep_ok (w : World) (x : Str) : CallP PG w (KK w) 1 122 [.str x] (.str (T [47])) := by
  refine CallP.def (ps := ["path"]) (ls := []) (fun _ => No) rfl rfl (by kernel_rfl) rfl rfl (by kernel_rfl) rfl rfl rfl (by decide +kernel) (by kernel_rfl) rfl (fun us h => match us, h with | [u], _ => rfl) (fun _ _ h => h) (fun _ _ h => h.elim) ?_
  intro env h₀ hk hc B
  (try dsimp only at hk)
  refine Ex.pre (S := StS (KK w) env h₀ No [("path", .val (.str x))]) ?_ (fun h q => q)
  refine' Ex.ite_ff (Te.plain ?t1 tru_bool rfl) ?_
  case t1 => walk_at "d.ev"
  rw [show T [47] = Str.ofString "/" by decide +kernel]
  walk_at "d.ret"
end Mine

end T_PFb

section T_DJ
open PySem PySem.W PyProof.Rows PySem.Calls PySem.Spec
set_option linter.unusedVariables false
set_option linter.unusedSimpArgs false
namespace Mine

theorem cellsFrom_mem : ∀ (names : List (Str × NameKind)) (k : Nat) (acc : List (Str × Addr)) (x : Str), ((∃ c, (x, c) ∈ acc) ∨ (x, NameKind.cell) ∈ names) → ∃ c, (x, c) ∈ cellsFrom k names acc
  | [], k, acc, x, h => by
    rcases h with h | h
    · exact h
    · cases h
  | (n, kd) :: r, k, acc, x, h => by
    unfold cellsFrom
    by_cases hk : (kd == NameKind.cell) = true
    · rw [if_pos hk]
      refine cellsFrom_mem r _ _ x ?_
      rcases h with ⟨c, h⟩ | h
      · exact .inl ⟨c, List.mem_cons_of_mem _ h⟩
      · rcases List.mem_cons.mp h with e | h
        · cases e; exact .inl ⟨k, List.mem_cons_self⟩
        · exact .inr h
    · rw [if_neg hk]
      refine cellsFrom_mem r _ _ x ?_
      rcases h with h | h
      · exact .inl h
      · rcases List.mem_cons.mp h with e | h
        · cases e; exact absurd rfl hk
        · exact .inr h
theorem lookup_of_mem {α : Type} : ∀ {l : List (Str × α)} {x : Str} {c : α}, (x, c) ∈ l → ∃ c', l.lookup x = some c'
  | (y, d) :: r, x, c, h => by
    cases hb : x == y with
    | true => exact ⟨d, by rw [List.lookup_cons, hb]⟩
    | false =>
      rcases List.mem_cons.mp h with e | h
      · cases e; simp at hb
      · obtain ⟨c', e⟩ := lookup_of_mem h
        exact ⟨c', by rw [List.lookup_cons, hb]; exact e⟩
theorem cellsFrom_lookup {names : List (Str × NameKind)} {k : Nat} {x : Str} (h : names.lookup x = some .cell) : ∃ c, (cellsFrom k names []).lookup x = some c :=
  let ⟨_, m⟩ := cellsFrom_mem names k [] x (.inr (mem_of_lookup h)); lookup_of_mem m

theorem bindL_not {kindOf : Str → Option NameKind} {x : Str} : ∀ {b : List (Str × Value)} {m : Str → Option Value}, x ∉ b.map (·.1) → bindL kindOf b m x = m x
  | [], m, _ => rfl
  | (y, u) :: r, m, hx => by
    rw [List.map_cons, List.mem_cons, not_or] at hx
    unfold bindL
    rw [bindL_not hx.2]
    split
    · exact if_neg hx.1
    · rfl
theorem bindL_get {kindOf : Str → Option NameKind} {x : Str} {v : Value} (hk : kindOf x = some .local) : ∀ {b : List (Str × Value)} {m : Str → Option Value}, (b.map (·.1)).Nodup → (x, v) ∈ b → bindL kindOf b m x = some v
  | (y, u) :: r, m, hn, h => by
    rw [List.map_cons, List.nodup_cons] at hn
    unfold bindL
    rcases List.mem_cons.mp h with e | h
    · cases e; rw [bindL_not hn.1, if_pos hk]; simp
    · exact bindL_get hk hn.2 h
theorem bindC_not {kindOf : Str → Option NameKind} {x : Str} : ∀ {b : List (Str × Value)} {m : Str → Option Value}, x ∉ b.map (·.1) → bindC kindOf b m x = m x
  | [], m, _ => rfl
  | (y, u) :: r, m, hx => by
    rw [List.map_cons, List.mem_cons, not_or] at hx
    unfold bindC
    rw [bindC_not hx.2]
    split
    · rfl
    · exact if_neg hx.1
theorem bindC_get {kindOf : Str → Option NameKind} {x : Str} {v : Value} (hk : kindOf x = some .cell) : ∀ {b : List (Str × Value)} {m : Str → Option Value}, (b.map (·.1)).Nodup → (x, v) ∈ b → bindC kindOf b m x = some v
  | (y, u) :: r, m, hn, h => by
    rw [List.map_cons, List.nodup_cons] at hn
    unfold bindC
    rcases List.mem_cons.mp h with e | h
    · cases e; rw [bindC_not hn.1, if_neg (by rw [hk]; decide)]; simp
    · exact bindC_get hk hn.2 h

section
variable {prog : Program} {w : World} {K : Frag} {n : Nat} {env : Env} {h₀ : Heap} {ex : Addr → Prop} {vs vs' : Vars} {S S' : Heap → Prop} {Q : Flow → Heap → Prop} {rest : List Stmt}

/-- what a def's parameters come to -/
def BindOk (fd : FuncData) (as : List AV) (ps : List Str) (as' : List AV) : Prop :=
  ∀ (M : Model) (A : Around) (E : Value → Shared → Prop) (Q : List (Str × Value) → Shared → Prop) (s : Shared) (us : List Value), Vals s.heap No us as →
    (∀ vals s', Grown s s' → Vals s'.heap No vals as' → Q (ps.zip vals) s') → wpAny M A (bindArgs fd ⟨us, []⟩) Q E s
theorem BindOk.plain {fd : FuncData} {as : List AV} {ps : List Str} (h : ∀ us : List Value, us.length = as.length → bindArgs fd ⟨us, []⟩ = pure (ps.zip us)) : BindOk fd as ps as :=
  fun M A E Q s us q k => by rw [h us q.length]; exact wpAny_pure (k us s (Grown.refl s) q)

theorem CallP.gen {f : Addr} {o : Obj} {fd : FuncData} {nm : List (Str × NameKind)} {body : List Stmt} {ps ls : List Str} {as as' : List AV} {r : AV} (exf : Heap → Addr → Prop)
    (ho : K.lookup f = some o) (hd : o.data = .func fd) (hcd : codeIn K fd.code fd.qualname = true) (hbody : fd.body = .stmts body) (hnm : fd.scope.names = nm)
    (hgl : fd.globals = mainGlobals) (hbl : fd.builtins = builtinsNs) (hcl : fd.closure = [])
    (hnd : decide (ps ++ ls).Nodup = true) (hkinds : ((ps ++ ls).all fun x => fd.scope.names.lookup x == some .local || fd.scope.names.lookup x == some .cell) = true) (hlen : as'.length = ps.length)
    (hbind : BindOk fd as ps as')
    (hA : ∀ h us, Vals h No us as' → Vals h (exf h) us as') (hT : ∀ h, There (exf h) h)
    (hb : ∀ (env : Env) (h₀ : Heap), Kinds env nm → (∀ x, nm.lookup x = some .cell → ∃ c, env.cells.lookup x = some c) → Base K h₀ → Ex prog w n env (exf h₀) (StS K env h₀ (exf h₀) (entryV ps as' ls)) body (fun fl h => Ext h₀ h ∧ Val h (Old h₀) (match fl with | .ret v => v | _ => .none) r))
    (hco : fd.scope.isCoroutine = false := by rfl) (hgen : fd.scope.isGenerator = false := by rfl) (hk : fd.scope.kind = .function := by rfl) : CallP prog w K (n + 1) f as r := by
  intro A R s Q E us B q h
  have hnd' : (ps ++ ls).Nodup := of_decide_eq_true hnd
  have hkn : ∀ x ∈ ps ++ ls, fd.scope.names.lookup x = some .local ∨ fd.scope.names.lookup x = some .cell := fun x hx => by simpa using List.all_eq_true.mp hkinds x hx
  refine wpAny_call (codeAny_call_function R.depth (B.k _ _ ho) hd hco hgen hbody (codeRec_of B.k hcd) ?_)
  rw [hcl]
  refine hbind _ _ _ _ s us q fun vals s₁ g₁ q₁ => ?_
  have B₁ := B.up g₁.ext
  have hvl : vals.length = ps.length := q₁.length.trans hlen
  have hzn : ((ps.zip vals).map (·.1)) = ps := by rw [List.map_fst_zip (by omega)]
  refine wpAny_newFunctionEnv_cells hk (fun x hx => ?_) fun env he s₂ x₂ => ?_
  · have := hkn x.1 (List.mem_append_left _ (List.of_mem_zip hx).1)
    rcases this with e | e
    · exact .inl e
    · obtain ⟨c, hc⟩ := cellsFrom_lookup (k := s₁.heap.objs.size + 1) e
      exact .inr ⟨e, by rw [hc]; rfl⟩
  have hloc : env.locals = s₁.heap.objs.size := by rw [he]; rfl
  have hcells : env.cells = cellsFrom (s₁.heap.objs.size + 1) fd.scope.names [] := by rw [he]; rfl
  have hkof : ∀ x, env.kindOf x = fd.scope.names.lookup x := by intro x; rw [he]; rfl
  have hks : env.scope.kind = .function := by rw [he]; exact hk
  refine ⟨B₁.lim.keeps x₂.toInCall.keep, codeAny_func ?_⟩
  have e2 := x₂.toInCall.same
  obtain ⟨h₂, tk₂, rfl⟩ := e2
  have S : StS K env s₁.heap (exf s₁.heap) (entryV ps as' ls) h₂ := by
    refine ⟨⟨hks, by rw [he]; exact hgl, by rw [he]; exact hbl, B₁.up x₂.toInCall.keep, (hT s₁.heap).up x₂.toInCall.keep, ?_⟩, B₁, ⟨_, x₂.toInCall.ns⟩, x₂.toInCall.keep, by rw [hloc]; exact no_next _, ?_, ?_, ?_, ?_, ?_, ?_⟩
    · intro p hp
      rcases List.mem_append.mp hp with hp | hp
      · obtain ⟨⟨x, a⟩, hp', rfl⟩ := List.mem_map.mp hp
        obtain ⟨v, h1, h2⟩ := look_zip (List.nodup_append.mp hnd').1 (hA _ _ q₁) (x, a) hp'
        have hmem := mem_of_lookup h1
        refine ⟨v, ?_, h2.up x₂.toInCall.keep⟩
        rcases hkn x (List.mem_append_left _ (List.of_mem_zip hp').1) with e | e
        · exact .loc _ ((hkof x).trans e) x₂.toInCall.ns (bindL_get ((hkof x).trans e) (by rw [hzn]; exact (List.nodup_append.mp hnd').1) hmem)
        · obtain ⟨c, hc⟩ := cellsFrom_lookup (k := s₁.heap.objs.size + 1) e
          have hc' : env.cells.lookup x = some c := by rw [hcells]; exact hc
          refine .cel c ((hkof x).trans e) hc' ?_
          have hcell := x₂.cell x c hc'
          rw [bindC_get ((hkof x).trans e) (by rw [hzn]; exact (List.nodup_append.mp hnd').1) hmem] at hcell
          exact hcell
      · obtain ⟨x, _, rfl⟩ := List.mem_map.mp hp; trivial
    · intro x l pp xs hp
      rcases List.mem_append.mp hp with hp | hp
      · obtain ⟨_, _, e⟩ := List.mem_map.mp hp; cases e
      · obtain ⟨_, _, e⟩ := List.mem_map.mp hp; cases e
    · intro x y l pp qq xs ys hp
      rcases List.mem_append.mp hp with hp | hp
      · obtain ⟨_, _, e⟩ := List.mem_map.mp hp; cases e
      · obtain ⟨_, _, e⟩ := List.mem_map.mp hp; cases e
    · intro x c hc
      refine ⟨?_, _, x₂.cell x c hc⟩
      have hlt := x₂.above x c (mem_of_lookup hc)
      rw [hloc] at hlt
      cases e : s₁.heap.get? c with
      | none => rfl
      | some o => exact absurd (Heap.lt_size e) (Nat.not_lt.mpr (Nat.le_of_lt hlt))
    · intro x y c hc hc'
      exact name_of_addr x₂.apart (mem_of_lookup hc) (mem_of_lookup hc')
    · have : (entryV ps as' ls).map (·.1) = ps ++ ls := by
        unfold entryV
        rw [List.map_append, List.map_map, List.map_map]
        have e1 : ((ps.zip as').map ((fun x : Str × Slot => x.1) ∘ fun p => (p.1, Slot.val p.2))) = ps := (List.map_fst_zip (by omega) : (ps.zip as').map Prod.fst = ps)
        have e2 : (ls.map ((fun x : Str × Slot => x.1) ∘ fun x => (x, Slot.free))) = ls := List.map_id ls
        rw [e1, e2]
      rw [this]; exact hnd'
    · intro p hp
      have hm : p.1 ∈ ps ++ ls := by
        rcases List.mem_append.mp hp with hp | hp
        · obtain ⟨⟨x, a⟩, hp', rfl⟩ := List.mem_map.mp hp
          exact List.mem_append_left _ (List.of_mem_zip hp').1
        · obtain ⟨x, hx, rfl⟩ := List.mem_map.mp hp; exact List.mem_append_right _ hx
      rcases hkn p.1 hm with e | e
      · exact .inl ((hkof _).trans e)
      · obtain ⟨c, hc⟩ := cellsFrom_lookup (k := s₁.heap.objs.size + 1) e
        exact .inr ⟨(hkof _).trans e, c, by rw [hcells]; exact hc⟩
  have hcx : ∀ x, nm.lookup x = some .cell → ∃ c, env.cells.lookup x = some c := fun x e => by
    rw [hcells]; exact cellsFrom_lookup (hnm ▸ e)
  refine wpAny_mono (hb env s₁.heap ⟨fun x => by rw [hkof x, hnm], hks⟩ hcx B₁ _ (R.deeper _) _ _ S) (fun fl s' ⟨⟨h', tk, e⟩, _, k, v⟩ => ?_) fun _ _ x => x
  subst e
  refine h _ _ (g₁.trans ?_) (v.weak fun b hb => ?_)
  · exact ⟨⟨_, _, rfl⟩, k⟩
  · obtain ⟨o, e⟩ := hb; exact ⟨o, g₁.ext _ _ e⟩

/-- a try whose body does not raise -/
theorem Ex.try_ {body : List Stmt} {h0 : ExceptHandler} {hs : List ExceptHandler} {pos : Pos} {T : Heap → Prop} (hb : Ex prog w n env ex S body (fun f h => match f with | .next => T h | f => Q f h)) (hr : Ex prog w n env ex T rest Q) : Ex prog w n env ex S (.Try body (h0 :: hs) [] [] pos :: rest) Q := by
  intro A R s E hS
  refine wpAny_execs_cons (wpAny_Try_except (wpAny_mono (hb A R s _ hS) (fun f s' ⟨⟨h', tk, e⟩, k, q⟩ => ?_) fun _ _ x => x))
  subst e
  cases f with
  | next => exact wpAny_execs_nil (ex_then R hr q k)
  | cont => exact ⟨⟨_, _, rfl⟩, k, q⟩
  | brk => exact ⟨⟨_, _, rfl⟩, k, q⟩
  | ret v => exact ⟨⟨_, _, rfl⟩, k, q⟩

/-- an object that is no name's place and no list changes -/
theorem StS.other' {h h' : Heap} {I : Addr} (S : StS K env h₀ ex vs h) (hd : ∀ o items k, h.get? I = some o → o.data ≠ .seq items k) (nL : env.locals ≠ I) (nC : ∀ x c, env.cells.lookup x = some c → c ≠ I) (h0 : h₀.get? I = none) (hI : ¬ ex I) (k : ∀ b o, b ≠ I → h.get? b = some o → h'.get? b = some o) : StS K env h₀ ex vs h' := by
  have sk : SeqKept ex h h' := fun b o' items n hb e hd' => k b o' (fun q => hd o' items n (q ▸ e) hd') e
  have gg : ∀ {x : Str} {v : Value}, Get env h x v → Get env h' x v := by
    intro x v g
    cases g with
    | loc m a b c => exact .loc m a (b.at' fun o e => k _ o nL e) c
    | cel c a b d => obtain ⟨o', ho', hd'⟩ := d; exact .cel c a b ⟨o', k _ _ (nC x c b) ho', hd'⟩
  have hk0 : Ext h₀ h' := fun b o' e => k b o' (fun q => by rw [q, h0] at e; cases e) (S.keep b o' e)
  refine ⟨⟨S.e.fn, S.e.gl, S.e.bl, S.base0.up hk0, ?_, ?_⟩, S.base0, ?_, hk0, S.newL, S.newO, S.ownd, ?_, S.celld, S.names, S.kinds⟩
  · intro b hb
    obtain ⟨o', e⟩ := S.e.there b hb
    exact ⟨o', k b o' (fun q => hI (q ▸ hb)) e⟩
  · intro p hp
    have old := S.e.holds p hp
    obtain ⟨y, sl⟩ := p
    cases sl with
    | free => trivial
    | val a => obtain ⟨v, g, q⟩ := old; exact ⟨v, gg g, q.moves sk fun _ _ n _ => n⟩
    | own l pp xs => obtain ⟨g, e, us, il, r⟩ := old; exact ⟨gg g, e, us, il.goes fun o' e' => k _ o' (fun q => hI (q ▸ e)) e', r.moves sk fun _ _ n _ => n⟩
  · obtain ⟨m, q⟩ := S.ns; exact ⟨m, q.at' fun o e => k _ o nL e⟩
  · intro x c hc
    obtain ⟨a, v, o', ho', hd'⟩ := S.cells x c hc
    exact ⟨a, v, o', k _ _ (nC x c hc) ho', hd'⟩
end
end Mine

end T_DJ

section T_DK
open PySem PySem.W PyProof.Rows PySem.Calls PySem.Spec
set_option linter.unusedVariables false
set_option linter.unusedSimpArgs false
namespace Mine

/-! ## iterators -/
section
variable (prog : Program) (w : World) (K : Frag)
def IterAt (A : Around) (ex : Addr → Prop) (strict : Prop) (h : Heap) (I : Addr) (xs : List AV) : Prop :=
  ∃ (fp : List Addr) (P : Nat → Value → Prop) (St : Nat → Heap → Prop) (Φ : (Addr → Prop) → Heap → Prop),
    Walks prog w A I fp [I] xs.length P St ∧ St 0 h ∧ (∀ i h, St i h → ∃ o fs, h.get? I = some o ∧ o.data = .fields fs) ∧
    (∀ b ∈ fp, b = I ∨ ∃ o items k, h.get? b = some o ∧ o.data = .seq items k ∧ (strict → ¬ ex b)) ∧
    Φ ex h ∧ (∀ ex ex' h h', Φ ex h → SeqKept ex h h' → (∀ b o, ¬ ex b → h.get? b = some o → ¬ ex' b) → Φ ex' h') ∧
    (∀ ex i v h, i < xs.length → P i v → Φ ex h → ∃ a, xs[i]? = some a ∧ Val h ex v a)
def EvI (n : Nat) (env : Env) (ex : Addr → Prop) (vs : Vars) (e : Expr) (strict : Prop) (xs : List AV) : Prop :=
  ∀ (A : Around), Room n A → ∀ (s : Shared) (Q : Value → Shared → Prop) (E : Value → Shared → Prop), StE K env ex vs s.heap →
    (∀ x s₁, Grown s s₁ → (∀ (Q' : Value → Shared → Prop) (E' : Value → Shared → Prop), (∀ I h₂ tk₂, Ext s₁.heap h₂ → s₁.heap.get? I = none → IterAt prog w A ex strict h₂ I xs → Q' (.ref I) { s₁ with heap := h₂, toks := tk₂ }) →
      wpAny (model prog w) A (pyIter x) Q' E' s₁) → Q x s₁) → wpAny (model prog w) A (eval e env) Q E s
end
section
variable {prog : Program} {w : World} {K : Frag} {n : Nat} {env : Env} {h₀ : Heap} {ex : Addr → Prop} {vs vs' : Vars} {S S' : Heap → Prop} {Q : Flow → Heap → Prop} {rest : List Stmt}

theorem push_none {h : Heap} {o : Obj} : Ext h (h.push o) := fun b o e => Heap.get?_push_of_some _ e
theorem iter_list {A : Around} (hh : A.handled = none) {h : Heap} {l : Addr} {us : List Value} {xs : List AV} {strict : Prop} (hl : h.IsList l us.toArray) (q : Vals h ex us xs) (hs : strict → ¬ ex l) :
    IterAt prog w A ex strict (h.push { cls := .type "list_iterator", data := .fields #[.ref l, .int 0 0] }) h.objs.size xs := by
  obtain ⟨ol, hol, hcl, nl, hdl⟩ := id hl
  have W := Walks.list (prog := prog) (w := w) (A := A) hh h.objs.size l (Nat.ne_of_lt (Heap.lt_size hol)) us.toArray
  have hlen : us.toArray.size = xs.length := by rw [List.size_toArray]; exact q.length
  rw [hlen] at W
  refine ⟨_, _, _, fun ex h => Vals h ex us xs, W, ⟨⟨_, Heap.get?_push_size _ rfl, rfl, rfl⟩, hl.push _⟩, fun i h st => ?_, fun b hb => ?_, q.up push_none, fun ex ex' h h' q k ke => q.moves k ke, fun ex i v h hi hp q => ?_⟩
  · obtain ⟨⟨o, ho, _, hd⟩, _⟩ := st; exact ⟨o, _, ho, hd⟩
  · rcases List.mem_cons.mp hb with e | hb
    · exact .inl e
    · rw [List.mem_singleton.mp hb]; exact .inr ⟨ol, _, nl, push_none _ _ hol, hdl, hs⟩
  · exact q.get' (by simpa using hp)
theorem iter_tuple {A : Around} (hh : A.handled = none) {h : Heap} {l : Addr} {us : List Value} {xs : List AV} {strict : Prop} (hl : h.IsTuple l us.toArray) (q : Vals h ex us xs) (hs : strict → ¬ ex l) :
    IterAt prog w A ex strict (h.push { cls := .type "tuple_iterator", data := .fields #[.ref l, .int 0 0] }) h.objs.size xs := by
  obtain ⟨ol, hol, hcl, nl, hdl⟩ := id hl
  have W := Walks.tuple (prog := prog) (w := w) (A := A) hh h.objs.size l (Nat.ne_of_lt (Heap.lt_size hol)) us.toArray
  have hlen : us.toArray.size = xs.length := by rw [List.size_toArray]; exact q.length
  rw [hlen] at W
  refine ⟨_, _, _, fun ex h => Vals h ex us xs, W, ⟨⟨_, Heap.get?_push_size _ rfl, rfl, rfl⟩, IsTuple.goes hl fun o e => push_none _ _ e⟩, fun i h st => ?_, fun b hb => ?_, q.up push_none, fun ex ex' h h' q k ke => q.moves k ke, fun ex i v h hi hp q => ?_⟩
  · obtain ⟨⟨o, ho, _, hd⟩, _⟩ := st; exact ⟨o, _, ho, hd⟩
  · rcases List.mem_cons.mp hb with e | hb
    · exact .inl e
    · rw [List.mem_singleton.mp hb]; exact .inr ⟨ol, _, nl, push_none _ _ hol, hdl, hs⟩
  · exact q.get' (by simpa using hp)

theorem EvI.list {e : Expr} {xs : List AV} (he : Ev prog w K n env ex vs e (.list xs)) : EvI prog w K n env ex vs e True xs := by
  intro A R s Q E S h
  refine he A R s _ _ S fun v s₁ g q => ?_
  cases q with
  | @list l us _ hex hl hvs =>
  refine h _ s₁ g fun Q' E' h' => wpAny_pyIter_list hl (h' _ _ _ push_none (no_next _) (iter_list R.1 hl hvs fun _ => hex))
theorem EvI.tup {e : Expr} {xs : List AV} (he : Ev prog w K n env ex vs e (.tup xs)) : EvI prog w K n env ex vs e True xs := by
  intro A R s Q E S h
  refine he A R s _ _ S fun v s₁ g q => ?_
  cases q with
  | @tup l us _ hex hl hvs =>
  refine h _ s₁ g fun Q' E' h' => wpAny_pyIter_tuple hl (h' _ _ _ push_none (no_next _) (iter_tuple R.1 hl hvs fun _ => hex))
theorem EvI.own {e : Expr} {xs : List AV} (he : EvL prog w K n env ex vs e xs) : EvI prog w K n env ex vs e False xs := by
  intro A R s Q E S h
  refine he A R s _ _ S fun l us s₁ g hl hvs => ?_
  refine h _ s₁ g fun Q' E' h' => wpAny_pyIter_list hl (h' _ _ _ push_none (no_next _) (iter_list R.1 hl hvs fun q => q.elim))
theorem EvI.to {e : Expr} {xs ys : List AV} {strict : Prop} (h : EvI prog w K n env ex vs e strict xs) (hb : xs = ys) : EvI prog w K n env ex vs e strict ys := hb ▸ h

/-- for x in e, over plain values -/
theorem Ex.forI {σ : Type} (V : σ → Vars) (P : Nat → σ → Prop) (B : Heap → Prop) {x : Str} {px pos : Pos} {iter : Expr} {body : List Stmt} {xs : List AV} (c₀ : σ)
    (hit : EvI prog w K n env ex vs iter True xs) (hv : V c₀ = vs) (hp₀ : P 0 c₀)
    (turn : ∀ i a c, xs[i]? = some a → P i c → ∃ vs', Upd x (.val a) (V c) vs' ∧ Ex prog w n env ex (StS K env h₀ ex vs') body (fun f h => match f with
      | .next | .cont => ∃ c', P (i + 1) c' ∧ StS K env h₀ ex (V c') h
      | .brk => B h
      | .ret v => Q (.ret v) h))
    (done : ∀ c, P xs.length c → Ex prog w n env ex (StS K env h₀ ex (V c)) rest Q)
    (brk : Ex prog w n env ex B rest Q)
    (hs : ∀ x, foldedSetIterable iter env x = pure x := by intro _; rfl) : Ex prog w n env ex (StS K env h₀ ex vs) (.For (.Name x px) iter body [] pos :: rest) Q := by
  intro A R s E hS
  subst hv
  refine wpAny_execs_cons (wpAny_For (hit A R s _ _ hS.e fun v s₁ g hpy => ?_) hs)
  have S₁ := hS.grow g
  obtain ⟨⟨h₁, tk₁, rfl⟩, k₁⟩ := g
  refine hpy _ _ fun I h₂ tk₂ k₂ hI0 ⟨fp, PP, St, Φ, W, st0, hf, hfp, ph0, hΦ, hx⟩ => ?_
  have S₂ := S₁.up k₂
  have hnI : ¬ ex I := fun hx => by obtain ⟨o, e⟩ := S₁.e.there _ hx; rw [hI0] at e; cases e
  have h0I : h₀.get? I = none := by
    cases e : h₀.get? I with
    | none => rfl
    | some o => have := S₁.keep _ _ e; rw [hI0] at this; cases this
  have nL : I ≠ env.locals := by obtain ⟨m, o, es, ep, ho, _⟩ := S₁.ns; intro e; rw [← e, hI0] at ho; cases ho
  have nC : ∀ x c, env.cells.lookup x = some c → I ≠ c := fun x c hc e => by obtain ⟨_, v, o, ho, _⟩ := S₁.cells x c hc; rw [← e, hI0] at ho; cases ho
  refine loop_walk (K := K) (h₀ := h₀) (ex := ex) (env := env) (Q := Q) (s := { s with heap := h₂, toks := tk₂ }) V P B R W hf h0I hnI ?_ (Φ ex) (fun h h' q k => hΦ _ _ _ _ q k fun _ _ n _ => n) (fun i => (xs[i]?).getD .none) ?_ h₁ hI0 (Kept.of_ext k₂) c₀ hp₀ S₂ st0 ph0 ?_ ?_ ?_ ?_
  · intro b hb
    rcases hfp b hb with e | ⟨o, items, k, ho, hd, hne⟩
    · subst e; exact ⟨nL, nC, hnI⟩
    · exact ⟨(S₂.seqNe ho hd).1, (S₂.seqNe ho hd).2, hne trivial⟩
  · intro i v h hi hPv ph
    obtain ⟨a, ha, q⟩ := hx _ i v h hi hPv ph
    rw [ha]; exact q
  · intro i c hi hp
    obtain ⟨a, ha⟩ : ∃ a, xs[i]? = some a := ⟨xs[i], by simp [hi]⟩
    rw [ha]
    exact turn i a c ha hp
  · intro c h tk hp S' kk
    exact ex_then R (done c hp) S' ((Kept.of_ext k₁).trans kk)
  · intro h tk hb kk
    exact ex_then R brk hb ((Kept.of_ext k₁).trans kk)
  · intro v h tk hq kk
    exact ⟨⟨_, _, rfl⟩, (Kept.of_ext k₁).trans kk, hq⟩

/-! ## comprehensions -/
theorem closure_ex {scope : Scope} (h : ∀ y, (y, NameKind.free) ∈ scope.names → ∃ c, env.cells.lookup y = some c) :
    ∃ cl, closureFor scope env = pure cl ∧ ∀ y, (y, NameKind.free) ∈ scope.names → cl.lookup y = env.cells.lookup y := by
  have main : ∀ (names : List (Str × NameKind)) (acc : List (Str × Addr)), (∀ y c, (y, c) ∈ acc → env.cells.lookup y = some c) → (∀ y, (y, NameKind.free) ∈ names → ∃ c, env.cells.lookup y = some c) →
      ∃ cl, (forIn names acc (fun (x : Str × NameKind) (cs : List (Str × Addr)) => (match x with | (name, kind) => if (kind == NameKind.free) = true then do let c ← cellOf env name; pure (ForInStep.yield ((name, c) :: cs)) else pure (ForInStep.yield cs) : Sem (ForInStep (List (Str × Addr))))) = pure cl) ∧ (∀ y c, (y, c) ∈ cl → env.cells.lookup y = some c) ∧ (∀ y c, (y, c) ∈ acc → (y, c) ∈ cl) ∧ ∀ y, (y, NameKind.free) ∈ names → ∃ c, (y, c) ∈ cl := by
    intro names
    induction names with
    | nil => intro acc ha _; exact ⟨acc, by simp, ha, fun _ _ h => h, fun y h => by cases h⟩
    | cons p r ih =>
      intro acc ha hn
      obtain ⟨name, kind⟩ := p
      rw [List.forIn_cons]
      by_cases hk : (kind == NameKind.free) = true
      · have hk' : kind = .free := by simpa using hk
        subst hk'
        obtain ⟨c, hc⟩ := hn name List.mem_cons_self
        have e : cellOf env name = pure c := by unfold cellOf; rw [hc]
        obtain ⟨cl, h1, h2, h3, h4⟩ := ih ((name, c) :: acc) (fun y d hm => by
          rcases List.mem_cons.mp hm with e | hm
          · cases e; exact hc
          · exact ha y d hm) (fun y hy => hn y (List.mem_cons_of_mem _ hy))
        refine ⟨cl, ?_, h2, fun y d hm => h3 y d (List.mem_cons_of_mem _ hm), fun y hy => ?_⟩
        · simp only [hk, if_true, e, pure_bind]; exact h1
        · rcases List.mem_cons.mp hy with e | hy
          · cases e; exact ⟨c, h3 _ _ List.mem_cons_self⟩
          · exact h4 y hy
      · obtain ⟨cl, h1, h2, h3, h4⟩ := ih acc ha (fun y hy => hn y (List.mem_cons_of_mem _ hy))
        refine ⟨cl, ?_, h2, h3, fun y hy => ?_⟩
        · simp only [hk, if_false, pure_bind]; exact h1
        · rcases List.mem_cons.mp hy with e | hy
          · cases e; exact absurd rfl hk
          · exact h4 y hy
  obtain ⟨cl, h1, h2, _, h4⟩ := main scope.names [] (fun _ _ h => by cases h) h
  refine ⟨cl, ?_, fun y hy => ?_⟩
  · unfold closureFor
    simp only [bind_pure]
    exact h1
  · obtain ⟨c, hm⟩ := h4 y hy
    obtain ⟨c', e⟩ := lookup_of_mem hm
    rw [e, h2 y c' (mem_of_lookup e)]
end
end Mine

end T_DK

section T_DL
open PySem PySem.W PyProof.Rows PySem.Calls PySem.Spec
set_option linter.unusedVariables false
set_option linter.unusedSimpArgs false
namespace Mine
section
variable (prog : Program) (w : World) (K : Frag)
/-- the tests of a comprehension -/
def Ifs (n : Nat) (env : Env) (ex : Addr → Prop) (vs : Vars) (ifs : List Expr) (b : Bool) : Prop :=
  ∀ (A : Around), Room n A → ∀ (s : Shared) (Q : Bool → Shared → Prop) (E : Value → Shared → Prop), StE K env ex vs s.heap → (∀ s', Grown s s' → Q b s') →
    wpAny (model prog w) A (forIn ifs true fun c r => if r = true then do let ok ← isTrue c env (eval c env); pure (ForInStep.yield ok) else pure (ForInStep.yield r)) Q E s
end
section
variable {prog : Program} {w : World} {K : Frag} {n : Nat} {env : Env} {h₀ : Heap} {ex : Addr → Prop} {vs vs' : Vars} {S S' : Heap → Prop} {Q : Flow → Heap → Prop} {rest : List Stmt}

theorem Ifs.nil : Ifs prog w K n env ex vs [] true := fun A R s Q E S h => by rw [List.forIn_nil]; exact wpAny_pure (h s (Grown.refl s))
theorem Ifs.one {c : Expr} {b : Bool} (hc : Te prog w K n env ex vs c b) : Ifs prog w K n env ex vs [c] b := fun A R s Q E S h => by
  rw [List.forIn_cons]
  simp only [if_true]
  refine wpAny_bind (wpAny_bind (hc A R s _ _ S fun s' g => wpAny_pure ?_))
  dsimp only
  rw [List.forIn_nil]
  exact wpAny_pure (h s' g)

/-- the names that a comprehension takes from around it -/
def Capt (env : Env) (scope : Scope) (vs capt : Vars) : Prop := ∀ p ∈ capt, p ∈ vs ∧ scope.names.lookup p.1 = some .free ∧ env.kindOf p.1 = some .cell

theorem lookup_relabel_free {env : Env} (hf : env.scope.kind = .function) : ∀ {names : List (Str × NameKind)} {x : Str}, names.lookup x = some .free → env.kindOf x = some .cell →
    (names.map fun (n, k) => if (k == NameKind.free && env.scope.kind == .function && env.kindOf n == some .cell) then (n, NameKind.cell) else (n, k)).lookup x = some .cell
  | [], _, h, _ => by simp at h
  | (m, k) :: r, x, h, hk => by
    show List.lookup x ((if (k == NameKind.free && env.scope.kind == .function && env.kindOf m == some .cell) = true then (m, NameKind.cell) else (m, k)) :: _) = _
    cases hx : x == m with
    | true =>
      simp only [List.lookup_cons, hx] at h
      cases h
      have e := beq_iff_eq.mp hx
      subst e
      rw [hf, hk]
      simp [List.lookup_cons]
    | false =>
      simp only [List.lookup_cons, hx] at h
      have ih := lookup_relabel_free hf h hk
      by_cases hc : (k == NameKind.free && env.scope.kind == .function && env.kindOf m == some .cell) = true
      · rw [if_pos hc]; simp only [List.lookup_cons, hx]; exact ih
      · rw [if_neg hc]; simp only [List.lookup_cons, hx]; exact ih

theorem compKinds {scope : Scope} {cl : List (Str × Addr)} {C : Addr} (hk : scope.kind = .function) {nm : List (Str × NameKind)} (h : (relabel scope env).names = nm) : Kinds (compEnvC scope cl C env) nm := ⟨fun x => by rw [← h]; rfl, hk⟩
/-- the comprehension's own frame -/
theorem comp_state {scope : Scope} {cl : List (Str × Addr)} {C D : Addr} {h h' : Heap} {m : Str → Option Value} {x : Str} {v : Value} {a : AV} {capt : Vars} (S : StE K env ex vs h) (hk : scope.kind = .function) (hx : scope.names.lookup x = some .local)
    (hcl : ∀ y, (y, NameKind.free) ∈ scope.names → cl.lookup y = env.cells.lookup y) (hc : Capt env scope vs capt) (k : Ext h h') (hD : h.get? D = none) (hD' : ∃ o, h'.get? D = some o) (hn : h'.Ns C m) (hm : m x = some v) (q : Val h' (Add ex D) v a) :
    StE K (compEnvC scope cl C env) (Add ex D) ((x, .val a) :: capt) h' := by
  have ke : ∀ b o, ¬ ex b → h.get? b = some o → ¬ Add ex D b := fun b o hb e q => q.elim hb fun q => by rw [q, hD] at e; cases e
  refine ⟨hk, S.gl, S.bl, S.base.up k, ?_, ?_⟩
  · intro b hb
    rcases hb with hb | hb
    · exact S.there.up k b hb
    · subst hb; exact hD'
  · intro p hp
    rcases List.mem_cons.mp hp with e | hp
    · subst e; exact ⟨v, .loc m (lookup_relabel_local hx) hn hm, q⟩
    · obtain ⟨hv, hf, hcell⟩ := hc p hp
      have old := S.holds p hv
      have gg : ∀ {u : Value}, Get env h p.1 u → Get (compEnvC scope cl C env) h' p.1 u := by
        intro u g
        cases g with
        | loc m a b c => rw [hcell] at a; cases a
        | cel c a b d => exact .cel c (lookup_relabel_free S.fn hf hcell) ((hcl _ (mem_of_lookup hf)).trans b) (d.keeps k)
      obtain ⟨y, sl⟩ := p
      cases sl with
      | free => trivial
      | val a => obtain ⟨u, g, q⟩ := old; exact ⟨u, gg g, q.moves (Ext.seq k) ke⟩
      | own l pp ys => obtain ⟨g, e, us, il, r⟩ := old; exact ⟨gg g, .inl e, us, il.goes fun o e => k _ o e, r.moves (Ext.seq k) ke⟩

theorem take_filter_map {xs : List AV} {i : Nat} {a : AV} (p : AV → Bool) (f : AV → AV) (h : xs[i]? = some a) : ((xs.take (i + 1)).filter p).map f = ((xs.take i).filter p).map f ++ (if p a then [f a] else []) := by
  rw [List.take_add_one, h, List.filter_append, List.map_append]
  cases hp : p a <;> simp [hp]

/-- a comprehension that makes a list, told of its whole tree -/
theorem comp_core {elt iter : Expr} {x : Str} {px : Pos} {ifs : List Expr} {scope : Scope} {cpos pos : Pos} {use : Option (Value → Sem Unit)} {xs : List AV} {strict : Prop} {capt : Vars} {A : Around} {s : Shared} {QQ : Value → Shared → Prop} {E : Value → Shared → Prop}
    (R : Room n A) (S : StE K env ex vs s.heap) (p : AV → Bool) (f : AV → AV)
    (hfc : ∀ y, (y, NameKind.free) ∈ scope.names → ∃ c, env.cells.lookup y = some c)
    (hcell : ∀ y ∈ scope.names, y.2 ≠ .cell) (hkind : scope.kind = .function) (hnames : ∀ y ∈ scope.names, y.2 = .local → scope.names.lookup y.1 = some .local) (hx : scope.names.lookup x = some .local)
    (hit : EvI prog w K n env ex vs iter strict xs) (hsz : xs.length ≤ sizeLine) (hc : Capt env scope vs capt)
    (hi : ∀ cl C D (i : Nat) a, xs[i]? = some a → Kinds (compEnvC scope cl C env) (relabel scope env).names → Ifs prog w K n (compEnvC scope cl C env) (Add ex D) ((x, .val a) :: capt) ifs (p a))
    (he : ∀ cl C D (i : Nat) a, xs[i]? = some a → p a = true → Kinds (compEnvC scope cl C env) (relabel scope env).names → (∀ y, (y, NameKind.free) ∈ scope.names → cl.lookup y = env.cells.lookup y) → Ev prog w K n (compEnvC scope cl C env) (Add ex D) ((x, .val a) :: capt) elt (f a))
    (hs : ∀ x, foldedSetIterable iter env x = pure x)
    (hQ : ∀ C D us h' tk, s.heap.get? C = none → s.heap.get? D = none → C ≠ D → (∃ m, h'.Ns C m) → Ext s.heap h' → ListAt h' D true us → Vals h' (Add ex D) us ((xs.filter p).map f) → compPost (model prog w) A E use QQ (.ref D) C (.ok .next) { s with heap := h', toks := tk }) :
    wpAny (model prog w) A (comprehension (.ListComp elt [⟨.Name x px, iter, ifs, 0⟩] scope pos) scope env cpos (newList []) false (eval iter env) use) QQ E s := by
  obtain ⟨cl, hclos, hcl⟩ := closure_ex (env := env) (scope := scope) hfc
  refine wpAny_comprehension_free (use := use) rfl hs hclos hkind hnames (hit A R s _ _ S fun xv s₁ g hpy => ?_)
  obtain ⟨⟨h₁, tk₁, rfl⟩, k₁⟩ := g
  have S₁ : StE K env ex vs h₁ := ⟨S.fn, S.gl, S.bl, S.base.up k₁, S.there.up k₁, S.holds.up k₁⟩
  refine hpy _ _ fun I h₂ tk₂ k₂ hI0 ⟨fp, P, St, Φ, W, st0, hf, hfp, ph0, hΦ, hxs⟩ => ?_
  have S₂ : StE K env ex vs h₂ := ⟨S₁.fn, S₁.gl, S₁.bl, S₁.base.up k₂, S₁.there.up k₂, S₁.holds.up k₂⟩
  refine wpAny_newObj_type (wpAny_newFunctionEnv hcell (by intro y hy; simp at hy) (fun h₃ hns₃ hsb₃ => ?_) hkind)
  dsimp only at hns₃ hsb₃ ⊢
  generalize hH2 : h₂.push { cls := .type "list", dict := none, data := .seq ([] : List Value).toArray } = H2 at hns₃ hsb₃ ⊢
  have hC : H2.objs.size = h₂.objs.size + 1 := by rw [← hH2, Heap.size_push]
  have hDC : h₂.objs.size ≠ H2.objs.size := by rw [hC]; exact Nat.ne_of_lt (Nat.lt_succ_self _)
  have below : ∀ b, b < h₂.objs.size → b ≠ H2.objs.size ∧ b ≠ h₂.objs.size := fun b hb => ⟨by rw [hC]; exact Nat.ne_of_lt (Nat.lt_succ_of_lt hb), Nat.ne_of_lt hb⟩
  have hfpl : ∀ b ∈ fp, b < h₂.objs.size := fun b hb => by
    rcases hfp b hb with e | ⟨o, items, k, ho, _⟩
    · subst e; obtain ⟨o, fs, ho, _⟩ := hf 0 _ st0; exact Heap.lt_size ho
    · exact Heap.lt_size ho
  have old : Ext h₂ h₃ := fun b o e => hsb₃.extBut b o (below b (Heap.lt_size e)).1 (Heap.get?_push_of_some _ (hH2 ▸ Heap.get?_push_of_some _ e))
  have hacc : h₃.PlainList h₂.objs.size #[] := ⟨_, hsb₃.extBut _ _ hDC (Heap.get?_push_of_some _ (hH2 ▸ Heap.get?_push_size _ rfl))⟩
  have fresh : ∀ a, h₂.objs.size ≤ a → ∀ {h : Heap}, Ext h h₂ → h.get? a = none := fun a ha h k => by
    cases e : h.get? a with
    | none => rfl
    | some o' => exact absurd (Heap.lt_size (k _ _ e)) (Nat.not_lt.mpr ha)
  have hD1 := fresh h₂.objs.size (Nat.le_refl _) k₂
  have hD0 := fresh h₂.objs.size (Nat.le_refl _) fun b o e => k₂ b o (k₁ b o e)
  have hC1 := fresh H2.objs.size (by rw [hC]; exact Nat.le_succ _) k₂
  have hC0 := fresh H2.objs.size (by rw [hC]; exact Nat.le_succ _) fun b o e => k₂ b o (k₁ b o e)
  have st3 : St 0 h₃ := W.frame _ _ _ st0 fun b _ o e => old b o e
  have ph3 : Φ (Add ex h₂.objs.size) h₃ := hΦ _ _ _ _ ph0 (Ext.seq old) fun b o hb e q => q.elim hb fun q => by rw [q, no_next] at e; cases e
  have hCk : Kinds (compEnvC scope cl H2.objs.size env) (relabel scope env).names := compKinds hkind rfl
  generalize hDg : h₂.objs.size = D at *
  generalize hCg : H2.objs.size = C at *
  have hDf : D ∉ fp := fun hm => Nat.lt_irrefl _ (hfpl _ hm)
  have hCf : C ∉ fp := fun hm => by have := hfpl _ hm; rw [hC] at this; exact Nat.lt_irrefl _ (Nat.lt_of_succ_lt this)
  have hIf : ∀ i h, St i h → I ≠ C ∧ I ≠ D := fun i h st => by
    have : I < D := by obtain ⟨o, fs, ho, _⟩ := hf 0 _ st0; rw [← hDg]; exact Heap.lt_size ho
    exact ⟨Nat.ne_of_lt (by rw [hC]; exact Nat.lt_succ_of_lt this), Nat.ne_of_lt this⟩
  have loop : ∀ s₃ : Shared, s₃ = { s with heap := h₃, toks := tk₂ + ([] : List (Str × Value)).length } →
      codeAny (model prog w) A (.compLoop (.ListComp elt [⟨.Name x px, iter, ifs, 0⟩] scope pos) 0 (.ref I) (.ref D) (compEnvC scope cl C env)) (compPost (model prog w) A E use QQ (.ref D) C) s₃ := by
    rintro s₃ rfl
    refine codeAny_compLoop_tests (env := compEnvC scope cl C env)
      (fun k s' => ∃ i h' tk m' us, s' = { s with heap := h', toks := tk } ∧ i ≤ xs.length ∧ k = xs.length + 1 - i ∧ St i h' ∧ Φ (Add ex D) h' ∧ h'.Ns C m' ∧ Ext h₁ h' ∧ h'.PlainList D us.toArray ∧ Vals h' (Add ex D) us (((xs.take i).filter p).map f)) ?_ (xs.length + 1)
      ⟨0, h₃, _, _, [], rfl, Nat.zero_le _, rfl, st3, ph3, hns₃, fun b o e => old b o (k₂ b o e), hacc, by simpa using Vals.nil⟩
    rintro k s' ⟨i, H, tk, m', us, rfl, hile, rfl, st, ph, hn, kH, pl, qs⟩
    obtain ⟨oI, fsI, hoI, hdI⟩ := hf i H st
    have sk : ∀ {h' : Heap}, (∀ b o, b ∉ [I] → H.get? b = some o → h'.get? b = some o) → SeqKept (Add ex D) H h' := fun k b o items nn _ e hd => k b o (by
      intro q; rw [List.mem_singleton.mp q, hoI] at e; cases e; rw [hdI] at hd; cases hd) e
    have eI : ∀ {h' : Heap}, (∀ b o, b ∉ [I] → H.get? b = some o → h'.get? b = some o) → Ext h₁ h' := fun k b o e => k b o (by
      intro q; rw [List.mem_singleton.mp q, hI0] at e; cases e) (kH b o e)
    have CnI : C ∉ [I] := fun q => (hIf i H st).1 (List.mem_singleton.mp q).symm
    have DnI : D ∉ [I] := fun q => (hIf i H st).2 (List.mem_singleton.mp q).symm
    by_cases hlt : i < xs.length
    · refine W.item i _ _ _ hlt st fun v h₄ tk₄ hPv st₄ k₄ => ?_
      refine wpAny_assign_Name (wpAny_storeName_local (env := compEnvC scope cl C env) (lookup_relabel_local hx) (hn.at' fun o e => k₄ _ o CnI e) (fun h₅ hn₅ hs₅ => ?_) (by simp [compEnvC, relabel, hkind]))
      have st₅ : St (i + 1) h₅ := W.frame _ _ _ st₄ fun b hb o e => hs₅.extBut b o (fun h => hCf (by change b = C at h; exact h ▸ hb)) e
      have sk5 : SeqKept (Add ex D) h₄ h₅ := fun b o items nn _ e hd => hs₅.extBut b o (by
        intro q
        obtain ⟨o', es, ep, ho', hd', _⟩ := hn.at' (h' := h₄) fun o e => k₄ _ o CnI e
        rw [q] at e
        change h₄.get? C = some o at e
        rw [ho'] at e; cases e; rw [hd] at hd'; cases hd') e
      have ph₅ : Φ (Add ex D) h₅ := hΦ _ _ _ _ (hΦ _ _ _ _ ph (sk k₄) fun _ _ n _ => n) sk5 fun _ _ n _ => n
      have k15 : Ext h₁ h₅ := fun b o e => hs₅.extBut b o (by intro q; rw [q] at e; change h₁.get? C = some o at e; rw [hC1] at e; cases e) (eI k₄ b o e)
      have pl₅ : h₅.PlainList D us.toArray := pl.at fun o e => hs₅.extBut _ _ hDC (k₄ _ _ DnI e)
      have qs₅ := (qs.moves (sk k₄) fun _ _ n _ => n).moves sk5 fun _ _ n _ => n
      obtain ⟨a, ha, qv⟩ := hxs _ i v h₅ hlt hPv ph₅
      obtain ⟨nD, hoD⟩ := id pl₅
      have S₅ : StE K (compEnvC scope cl C env) (Add ex D) ((x, .val a) :: capt) h₅ := comp_state S₁ hkind hx hcl hc k15 hD1 ⟨_, hoD⟩ hn₅ (by simp) qv
      refine hi cl C D i a ha hCk A R { s with heap := h₅, toks := _ } _ _ S₅ fun s₆ g₆ => ?_
      obtain ⟨⟨h₆, tk₆, rfl⟩, k₆⟩ := g₆
      dsimp only at k₆
      have st₆ : St (i + 1) h₆ := W.frame _ _ _ st₅ fun b hb o e => k₆ b o e
      have tf := take_filter_map p f ha
      cases hpa : p a with
      | false =>
        simp only [Bool.false_eq_true, if_false]
        refine ⟨xs.length + 1 - (i + 1), by omega, i + 1, h₆, tk₆, _, us, rfl, hlt, rfl, st₆, hΦ _ _ _ _ ph₅ (Ext.seq k₆) fun _ _ n _ => n, hn₅.keeps k₆, fun b o e => k₆ b o (k15 b o e), pl₅.at fun o e => k₆ _ o e, ?_⟩
        rw [tf, hpa]; simpa using qs₅.up k₆
      | true =>
        simp only [if_true]
        have S₆ : StE K (compEnvC scope cl C env) (Add ex D) ((x, .val a) :: capt) h₆ := ⟨S₅.fn, S₅.gl, S₅.bl, S₅.base.up k₆, S₅.there.up k₆, S₅.holds.up k₆⟩
        refine he cl C D i a ha hpa hCk hcl A R { s with heap := h₆, toks := tk₆ } _ _ S₆ fun y s₇ g₇ q₇ => ?_
        obtain ⟨⟨h₇, tk₇, rfl⟩, k₇⟩ := g₇
        dsimp only at k₇ q₇
        have hus : us.toArray.size ≤ sizeLine := by
          have e1 := qs.length
          have e2 : (((xs.take i).filter p).map f).length ≤ xs.length := by
            rw [List.length_map]
            refine Nat.le_trans (List.length_filter_le _ _) ?_
            rw [List.length_take]; omega
          rw [List.size_toArray]; omega
        refine wpAny_list_append_plain (hsz := hus) ((pl₅.at fun o e => k₆ _ o e).at fun o e => k₇ _ o e) fun h₈ pl₈ hs₈ => ?_
        have sk8 : SeqKept (Add ex D) h₇ h₈ := fun b o items nn hb e _ => hs₈.extBut b o (fun q => hb (.inr q)) e
        have hn₈ := ((hn₅.keeps k₆).keeps k₇).sameBut hs₈ (Ne.symm hDC)
        refine ⟨xs.length + 1 - (i + 1), by omega, i + 1, h₈, tk₇, _, us ++ [y], rfl, hlt, rfl, ?_, ?_, hn₈, ?_, ?_, ?_⟩
        · exact W.frame _ _ _ st₆ fun b hb o e => hs₈.extBut b o (fun h => hDf (h ▸ hb)) (k₇ b o e)
        · exact hΦ _ _ _ _ (hΦ _ _ _ _ (hΦ _ _ _ _ ph₅ (Ext.seq k₆) fun _ _ n _ => n) (Ext.seq k₇) fun _ _ n _ => n) sk8 fun _ _ n _ => n
        · exact fun b o e => hs₈.extBut b o (by intro q; rw [q, hD1] at e; cases e) (k₇ b o (k₆ b o (k15 b o e)))
        · simpa using pl₈
        · rw [tf, hpa, if_pos rfl]
          exact (((qs₅.up k₆).up k₇).moves sk8 fun _ _ n _ => n).append (.cons (q₇.moves sk8 fun _ _ n _ => n) .nil)
    · have hin : i = xs.length := by omega
      subst hin
      refine W.done _ _ _ st fun h₄ tk₄ k₄ => ?_
      rw [List.take_length] at qs
      refine hQ C D us h₄ tk₄ hC0 hD0 (Ne.symm hDC) ⟨_, hn.at' fun o e => k₄ _ o CnI e⟩ (fun b o e => eI k₄ b o (k₁ b o e)) (ListAt.ofPlain (pl.at fun o e => k₄ _ _ DnI e)) ?_
      exact qs.moves (sk k₄) fun _ _ n _ => n
  have := codeAny_compStart_list (loop _ rfl) (W.self 0 _ _ _ st3 (loop _ rfl))
  exact this

theorem EvN.comp {elt iter : Expr} {x : Str} {px : Pos} {ifs : List Expr} {scope : Scope} {pos : Pos} {xs : List AV} {strict : Prop} {capt : Vars} (p : AV → Bool) (f : AV → AV)
    (hfc : ∀ y, (y, NameKind.free) ∈ scope.names → ∃ c, env.cells.lookup y = some c)
    (hcell : ∀ y ∈ scope.names, y.2 ≠ .cell) (hkind : scope.kind = .function) (hnames : ∀ y ∈ scope.names, y.2 = .local → scope.names.lookup y.1 = some .local) (hx : scope.names.lookup x = some .local)
    (hit : EvI prog w K n env ex vs iter strict xs) (hsz : xs.length ≤ sizeLine) (hc : Capt env scope vs capt)
    (hi : ∀ cl C D (i : Nat) a, xs[i]? = some a → Kinds (compEnvC scope cl C env) (relabel scope env).names → Ifs prog w K n (compEnvC scope cl C env) (Add ex D) ((x, .val a) :: capt) ifs (p a))
    (he : ∀ cl C D (i : Nat) a, xs[i]? = some a → p a = true → Kinds (compEnvC scope cl C env) (relabel scope env).names → (∀ y, (y, NameKind.free) ∈ scope.names → cl.lookup y = env.cells.lookup y) → Ev prog w K n (compEnvC scope cl C env) (Add ex D) ((x, .val a) :: capt) elt (f a))
    (hs : ∀ x, foldedSetIterable iter env x = pure x := by intro _; rfl) : EvN prog w K n env ex vs (.ListComp elt [⟨.Name x px, iter, ifs, 0⟩] scope pos) ((xs.filter p).map f) := by
  intro A R s Q E S h
  rw [eval_ListComp]
  refine comp_core (use := none) R S p f hfc hcell hkind hnames hx hit hsz hc hi he hs fun C D us h' tk hC hD hCD hn k il q => ?_
  obtain ⟨m, hn⟩ := hn
  refine ⟨m, hn, fun h'' hs'' => ?_⟩
  have k2 : ∀ b o, b ≠ C → h'.get? b = some o → h''.get? b = some o := fun b o hb e => hs''.extBut b o hb e
  refine h D us _ ⟨⟨_, _, rfl⟩, fun b o e => k2 b o (fun q => by rw [q, hC] at e; cases e) (k b o e)⟩ hD (il.goes fun o e => k2 D o (Ne.symm hCD) e) ?_
  refine q.moves (fun b o items nn hb e hd => k2 b o (fun qq => ?_) e) fun _ _ n _ => n
  obtain ⟨o', es, ep, ho', hd', _⟩ := hn
  rw [qq, ho'] at e; cases e; rw [hd] at hd'; cases hd'

/-- y = [.. for x in ..], the stores exchanged; y to hold what sl says -/
theorem Ex.comp {elt iter : Expr} {x y : Str} {px py spos : Pos} {ifs : List Expr} {scope : Scope} {pos : Pos} {xs : List AV} {strict : Prop} {capt : Vars} (p : AV → Bool) (f : AV → AV)
    (hsw : swapsWith (.ListComp elt [⟨.Name x px, iter, ifs, 0⟩] scope pos) (some (.Name y py)) spos.line env = pure true)
    (hfc : ∀ y, (y, NameKind.free) ∈ scope.names → ∃ c, env.cells.lookup y = some c)
    (hcell : ∀ y ∈ scope.names, y.2 ≠ .cell) (hkind : scope.kind = .function) (hnames : ∀ y ∈ scope.names, y.2 = .local → scope.names.lookup y.1 = some .local) (hx : scope.names.lookup x = some .local)
    (hit : EvI prog w K n env ex vs iter strict xs) (hsz : xs.length ≤ sizeLine) (hc : Capt env scope vs capt)
    (hi : ∀ cl C D (i : Nat) a, xs[i]? = some a → Kinds (compEnvC scope cl C env) (relabel scope env).names → Ifs prog w K n (compEnvC scope cl C env) (Add ex D) ((x, .val a) :: capt) ifs (p a))
    (he : ∀ cl C D (i : Nat) a, xs[i]? = some a → p a = true → Kinds (compEnvC scope cl C env) (relabel scope env).names → (∀ y, (y, NameKind.free) ∈ scope.names → cl.lookup y = env.cells.lookup y) → Ev prog w K n (compEnvC scope cl C env) (Add ex D) ((x, .val a) :: capt) elt (f a))
    (u : Upd y (.val (.list ((xs.filter p).map f))) vs vs') (hr : Ex prog w n env ex (StS K env h₀ ex vs') rest Q)
    (hs : ∀ x, foldedSetIterable iter env x = pure x := by intro _; rfl) : Ex prog w n env ex (StS K env h₀ ex vs) (.Assign [.Name y py] (.ListComp elt [⟨.Name x px, iter, ifs, 0⟩] scope pos) spos :: rest) Q := by
  intro A R s E hS
  refine wpAny_execs_cons ?_
  rw [exec_Assign_Name_used _ _ _ _ hsw]
  refine wpAny_bind (wpAny_standAt (wpAny_bind ?_))
  show wpAny _ A (do let _ ← comprehension (.ListComp elt [⟨.Name x px, iter, ifs, 0⟩] scope pos) scope env _ (newList []) false (eval iter env) (some (PySem.assign (.Name y py) env))) _ _ s
  refine wpAny_bind (comp_core (use := some (PySem.assign (.Name y py) env)) R hS.e p f hfc hcell hkind hnames hx hit hsz hc hi he hs fun C D us h' tk hC hD hCD hn k il q => ?_)
  have S' := hS.up k
  have hex : ¬ ex D := fun hx => by obtain ⟨o, e⟩ := hS.e.there _ hx; rw [hD] at e; cases e
  have hexC : ¬ ex C := fun hx => by obtain ⟨o, e⟩ := hS.e.there _ hx; rw [hC] at e; cases e
  have hC0 : h₀.get? C = none := by
    cases e : h₀.get? C with
    | none => rfl
    | some o => have := hS.keep _ _ e; rw [hC] at this; cases this
  have nL : env.locals ≠ C := by obtain ⟨m, o, es, ep, ho, _⟩ := hS.ns; intro e; rw [e, hC] at ho; cases ho
  have nC : ∀ x c, env.cells.lookup x = some c → c ≠ C := fun x c hc e => by obtain ⟨_, v, o, ho, _⟩ := hS.cells x c hc; rw [e, hC] at ho; cases ho
  obtain ⟨m, hn⟩ := hn
  show wpAny _ A (PySem.assign (.Name y py) env (.ref D)) _ _ _
  refine wpAny_assign_Name (store_val (s := { s with heap := h', toks := tk }) S' u (.list hex il.isList (q.weak fun _ x => .inl x)) fun h₂ tk₂ S₂ k₂ => ?_)
  have hn₂ : h₂.Ns C m := hn.at' fun o e => k₂ _ o (Ne.symm nL) (fun x c hc => Ne.symm (nC x c hc)) hexC e
  refine ⟨m, hn₂, fun h₃ hs₃ => wpAny_pure ?_⟩
  have k3 : ∀ b o, b ≠ C → h₂.get? b = some o → h₃.get? b = some o := fun b o hb e => hs₃.extBut b o hb e
  refine wpAny_pure ?_
  refine ex_then R hr (S₂.other' (fun o items kk e hd => ?_) nL nC hC0 hexC k3) ?_
  · obtain ⟨o', es, ep, ho', hd', _⟩ := hn₂
    rw [ho'] at e; cases e; rw [hd] at hd'; cases hd'
  · intro b o h1 h2 h3 e
    exact k3 b o (fun q => by rw [q, hC] at e; cases e) (k₂ b o h1 h2 h3 (k b o e))
end
end Mine

end T_DL

section T_PT
open PySem PySem.W PyProof.Rows PySem.Calls PySem.Spec
open PySem.Builtin PySem.Builtin.Str
set_option linter.unusedVariables false
set_option linter.unusedSimpArgs false
namespace Mine
/-- split at the slashes -/
def sp : List Nat → List (List Nat)
  | [] => [[]]
  | c :: l => if c = 47 then [] :: sp l else match sp l with
    | [] => [[c]]
    | p :: ps => (c :: p) :: ps
/-- join by slashes -/
def jn : List (List Nat) → List Nat
  | [] => []
  | [p] => p
  | p :: q :: ps => p ++ 47 :: jn (q :: ps)
theorem sp_ne (l : List Nat) : ∃ p ps, sp l = p :: ps := by
  cases l with
  | nil => exact ⟨_, _, rfl⟩
  | cons c l =>
    unfold sp
    split
    · exact ⟨_, _, rfl⟩
    · split <;> exact ⟨_, _, rfl⟩
theorem sp_app_free : ∀ (p l : List Nat), 47 ∉ p → sp (p ++ 47 :: l) = p :: sp l
  | [], l, _ => by simp [sp]
  | c :: p, l, h => by
    have hc : c ≠ 47 := fun e => h (e ▸ List.mem_cons_self)
    have hp : 47 ∉ p := fun q => h (List.mem_cons_of_mem _ q)
    rw [List.cons_append, sp, if_neg hc, sp_app_free p l hp]
theorem sp_free : ∀ (p : List Nat), 47 ∉ p → sp p = [p]
  | [], _ => rfl
  | c :: p, h => by
    have hc : c ≠ 47 := fun e => h (e ▸ List.mem_cons_self)
    have hp : 47 ∉ p := fun q => h (List.mem_cons_of_mem _ q)
    rw [sp, if_neg hc, sp_free p hp]
theorem sp_jn : ∀ (ps : List (List Nat)), ps ≠ [] → (∀ p ∈ ps, 47 ∉ p) → sp (jn ps) = ps
  | [], h, _ => absurd rfl h
  | [p], _, h => sp_free p (h p List.mem_cons_self)
  | p :: q :: ps, _, h => by
    rw [jn, sp_app_free p _ (h p List.mem_cons_self), sp_jn (q :: ps) (by simp) fun r hr => h r (List.mem_cons_of_mem _ hr)]
theorem T_cps (x : PySem.Str) : T x.cps.toList = x := by cases x; simp [T]
theorem join_T : ∀ ps : List (List Nat), PySem.Str.join (T [47]) (ps.map T) = T (jn ps)
  | [] => rfl
  | [p] => rfl
  | p :: q :: ps => by
    have ih := join_T (q :: ps)
    show T p ++ T [47] ++ PySem.Str.join (T [47]) ((q :: ps).map T) = _
    rw [ih, T_append, T_append, jn]
    simp
theorem split_T (l : List Nat) : Txt.split (T l) (T [47]) = (sp l).map T := by
  have h1 := StrLaws.join_split (T l) (T [47])
  have h2 := StrLaws.split_free (T l) 47
  have hne : Txt.split (T l) (T [47]) ≠ [] := by
    unfold Txt.split
    split
    · simp
    · split
      · simp
      · rw [StrLaws.partsBetween_eq]
        obtain ⟨p, r, e⟩ := StrLaws.partsFrom_ne (T l) (T [47]).length 0 (occurrences (T l) (T [47]) 0 (T l).length ((T l).length + 1))
        rw [e]; simp
  generalize hP : Txt.split (T l) (T [47]) = P at h1 hne
  have h2' : ∀ p ∈ P, 47 ∉ p.cps.toList := fun p hp => h2 p (by show p ∈ Txt.split (T l) (T [47]); rw [hP]; exact hp)
  have hm : P = (P.map fun p => p.cps.toList).map T := by
    rw [List.map_map]
    conv => lhs; rw [← List.map_id P]
    exact List.map_congr_left fun p _ => (T_cps p).symm
  rw [hm, join_T] at h1
  have h3 := T_inj.mp h1
  have h4 := sp_jn (P.map fun p => p.cps.toList) (by simpa using hne) (by
    intro p hp
    obtain ⟨q, hq, rfl⟩ := List.mem_map.mp hp
    exact h2' q hq)
  rw [h3] at h4
  rw [hm, h4]
theorem rfind_T (h t : List Nat) (ht : 47 ∉ t) : Txt.rfind (T (h ++ 47 :: t)) (T [47]) = (h.length : Int) := by
  have at_iff : ∀ i, StrLaws.At (T (h ++ 47 :: t)) (T [47]) (T (h ++ 47 :: t)).length i ↔ (h ++ 47 :: t)[i]? = some 47 := by
    intro i
    unfold StrLaws.At
    rw [StrLaws.subAt_eq]
    have e : (T (h ++ 47 :: t)).cps.toList = h ++ 47 :: t := by simp [T]
    have e2 : (T [47]).length = 1 := by simp [T_length]
    have e3 : (T [47]).cps.toList = [47] := by simp [T]
    rw [e, e2, e3, StrLaws.take1_drop, T_length]
    constructor
    · exact fun q => q.2
    · intro q
      refine ⟨?_, q⟩
      have := (List.getElem?_eq_some_iff.mp q).1
      omega
  unfold Txt.rfind
  rcases StrLaws.last_spec (T (h ++ 47 :: t)) (T [47]) with ⟨_, q⟩ | ⟨i, e, q, r⟩
  · exact absurd ((at_iff h.length).mpr (by simp)) (q h.length)
  · rw [e]
    have hi := (at_iff i).mp q
    have h1 : ¬ i < h.length := fun hlt => r h.length hlt ((at_iff h.length).mpr (by simp))
    have h2 : ¬ h.length < i := fun hlt => by
      rw [List.getElem?_append_right (by omega)] at hi
      obtain ⟨k, hk⟩ : ∃ k, i - h.length = k + 1 := ⟨i - h.length - 1, by omega⟩
      rw [hk, List.getElem?_cons_succ] at hi
      exact ht (List.mem_of_getElem? hi)
    have : i = h.length := by omega
    simp [this]
theorem starts_T (l : List Nat) : Txt.startswith (T l) (T [47]) = (l.head? == some 47) := by
  unfold Txt.startswith
  rw [StrLaws.subAt_eq]
  cases l with
  | nil => simp [T, T_length, PySem.Str.length]
  | cons c l => simp [T, T_length, PySem.Str.length]
theorem ends_T (l : List Nat) : Txt.endswith (T l) (T [47]) = (l.getLast? == some 47) := by
  unfold Txt.endswith
  rw [StrLaws.subAt_eq]
  rcases List.eq_nil_or_concat l with rfl | ⟨r, c, rfl⟩
  · simp [T, T_length, PySem.Str.length]
  · simp [T, T_length, PySem.Str.length]
theorem rstrip_T (h : List Nat) (c : Nat) (hc : c ≠ 47) : Txt.rstripChars (T (h ++ [c] ++ [47])) (T [47]) = T (h ++ [c]) := by
  unfold Txt.rstripChars Txt.stripBy PySem.stripSame PySem.stripped
  have hlo : stripLo (T [47]).cps.contains false (T (h ++ [c] ++ [47])) = 0 := rfl
  rw [hlo]
  obtain ⟨h1, h2, h3, h4⟩ := hi_facts (T [47]).cps.contains (T (h ++ [c] ++ [47])) 0 (Nat.zero_le _)
  generalize stripHi (T [47]).cps.contains true (T (h ++ [c] ++ [47])) 0 = hi at h1 h2 h3 h4
  rw [T_length] at h2 h3
  have g1 : (T (h ++ [c] ++ [47])).cps.getD h.length 0 = c := by simp [T]
  have g2 : (T (h ++ [c] ++ [47])).cps.getD (h.length + 1) 0 = 47 := by simp [T]
  have hhi : hi = h.length + 1 := by
    have a1 : ¬ hi ≤ h.length := fun q => by
      have := h3 h.length q (by simp)
      rw [g1] at this
      simp [T] at this
      exact hc this
    have a2 : ¬ h.length + 1 < hi := fun q => by
      have : hi = h.length + 2 := by simp at h2; omega
      rw [this] at h4
      rcases h4 with h4 | h4
      · omega
      · rw [show h.length + 2 - 1 = h.length + 1 by omega, g2] at h4
        simp [T] at h4
    omega
  rw [hhi]
  have : ((0 : Nat) == 0 && h.length + 1 == (T (h ++ [c] ++ [47])).length) = false := by rw [T_length]; simp
  rw [this]
  simp only [Bool.false_eq_true, if_false]
  rw [← T_cps (strSub _ _ _), StrLaws.strSub_toList]
  congr 1
  have e : (T (h ++ [c] ++ [47])).cps.toList = (h ++ [c]) ++ [47] := by simp [T]
  rw [e, List.drop_zero, List.take_append_of_le_length (by simp), List.take_of_length_le (by simp)]
end Mine

end T_PT

section T_DM
open PySem PySem.W PyProof.Rows PySem.Calls PySem.Spec
open PySem.Builtin PySem.Builtin.Str
set_option linter.unusedVariables false
set_option linter.unusedSimpArgs false
namespace Mine
section
variable {prog : Program} {w : World} {K : Frag} {n : Nat} {env : Env} {h₀ : Heap} {ex : Addr → Prop} {vs vs' : Vars} {S S' : Heap → Prop} {Q : Flow → Heap → Prop} {rest : List Stmt}

theorem CallP.up {m : Nat} {f : Addr} {as : List AV} {r : AV} (h : CallP prog w K m f as r) (hm : m ≤ n) : CallP prog w K n f as r := fun A R => h A (R.less hm)

theorem Ev.rstrip1 {o e : Expr} {apos pos : Pos} {x y : Str} {pl : Sem Bool} (ho : Ev prog w K n env ex vs o (.str x)) (hy : Ev prog w K n env ex vs e (.str y)) (hx : x.length ≤ sizeLine) (he : MethTree env o "rstrip" apos pos [e] pl) (h1 : starEach [e] env = (false, eval e env) :: starEach [] env := by rfl) : Ev prog w K n env ex vs (.Call (.Attribute o "rstrip" apos) [e] [] pos) (.str (Txt.rstripChars x y)) :=
  Ev.meth1 ho (fun A E s t Q h => by with_reducible exact GM.rstrip h) (EvS.cons hy EvS.nil h1) (fun A R s t us Q E T q h => by cases q with | cons a b => cases a; cases b; exact SC.rstripChars (fun _ _ => h _ _ (Grown.tok s _) (.str _ _)) hx) he h1

theorem strs_vals {h : Heap} : ∀ {l : List (Str × Tok)} {xs : List Str}, l.map (·.1) = xs → Vals h ex (strValues l) (xs.map .str)
  | [], xs, e => by subst e; exact .nil
  | (x, t) :: r, xs, e => by subst e; exact .cons (.str _ _) (strs_vals rfl)
theorem call_split {A : Around} {E : Value → Shared → Prop} {s : Shared} {x y : Str} {t u : Tok} {QQ : Value → Shared → Prop} (hy : (y.length == 0) = false) (hx : x.length ≤ sizeLine) (hsz2 : (partsBetween x (occurrences x y 0 x.length (x.length + 1)) y.length).length ≤ sizeLine)
    (hq : ∀ l k, l.map (·.1) = Txt.split x y → QQ (.ref s.heap.objs.size) { s with heap := s.heap.push { cls := .type "list", data := .seq (strValues l).toArray }, toks := k }) :
    wpAny (model prog w) A (call (.builtin "str.split") [.str x t, .str y u]) QQ E s := by
  cases h1 : (decide (x.length < y.length) || decide (strKind x < strKind y))
  · cases hf : (occurrences x y 0 x.length (x.length + 1)).isEmpty
    · refine call_meets F.slot_str_split (typeIs_str _ _ _) F.entry_str_split (F.args_str_split_2 _ _) (meets_str_split_sep x y t u h1 hy hf hx hsz2) ?_
      show wants QQ E _ { s with toks := _, heap := s.heap.push { cls := .type "list", data := .seq (strsFrom s.toks (partsBetween x (occurrences x y 0 x.length (x.length + 1)) y.length)).toArray } }
      rw [strsFrom_eq]
      exact hq (numbered s.toks _) _ ((numbered_texts _ _).trans ((if_neg (ne_true_of_eq_false h1)).trans (if_neg (ne_true_of_eq_false hf))).symm)
    · exact call_meets F.slot_str_split (typeIs_str _ _ _) F.entry_str_split (F.args_str_split_2 _ _) (meets_str_split_not_found x y t u h1 hy hf)
        (hq [(x, t)] s.toks ((if_neg (ne_true_of_eq_false h1)).trans (if_pos hf)).symm)
  · exact call_meets F.slot_str_split (typeIs_str _ _ _) F.entry_str_split (F.args_str_split_2 _ _) (meets_str_split_cannot_occur x y t u h1)
      (hq [(x, t)] s.toks (if_pos h1).symm)
theorem split_le (l : List Nat) : (sp l).length ≤ l.length + 1 := by
  induction l with
  | nil => simp [sp]
  | cons c l ih =>
    unfold sp
    split
    · simp; exact ih
    · obtain ⟨p, ps, e⟩ := sp_ne l
      rw [e] at ih ⊢
      simp at ih ⊢; omega
theorem Ev.splitS {o e : Expr} {apos pos : Pos} {x : List Nat} {pl : Sem Bool} (ho : Ev prog w K n env ex vs o (.str (T x))) (hy : Ev prog w K n env ex vs e (.str (T [47]))) (hx : x.length ≤ 100000) (he : MethTree env o "split" apos pos [e] pl) (h1 : starEach [e] env = (false, eval e env) :: starEach [] env := by rfl) :
    Ev prog w K n env ex vs (.Call (.Attribute o "split" apos) [e] [] pos) (.list ((sp x).map fun p => .str (T p))) :=
  Ev.meth1 ho (fun A E s t Q h => by with_reducible exact GM.split h) (EvS.cons hy EvS.nil h1) (fun A R s t us Q E Tt q h => by
    cases q with
    | cons a b =>
    cases a; cases b
    have hb := sizeLine_eq
    refine call_split (by rw [T_length]; rfl) (by rw [T_length]; omega) ?_ fun l k hl => h _ _ (Grown.push _ _ _) (.list (Tt.next) ⟨_, Heap.get?_push_size _ rfl, rfl, 0, rfl⟩ ?_)
    · rw [length_partsBetween]
      have := StrLaws.occ_length_le (T x) (T [47]) 0 (T x).length ((T x).length + 1)
      rw [T_length] at this ⊢
      omega
    · rw [split_T] at hl
      have := strs_vals (h := (s.heap.push { cls := .type "list", data := .seq (strValues l).toArray })) (ex := ex) hl
      rw [List.map_map] at this
      exact this) he h1

theorem StrsAre.of {h : Heap} : ∀ {us : List Value} {ys : List Str}, Vals h ex us (ys.map .str) → StrsAre us ys
  | _, [], .nil => .nil
  | _, y :: ys, .cons (.str _ t) r => .cons y t (StrsAre.of r)
/-- a text's method upon a list -/
theorem Ev.methL {o e : Expr} {name : Str} {id : String} {apos pos : Pos} {x : Str} {ys : List AV} {r : AV} {pl : Sem Bool} (ho : Ev prog w K n env ex vs o (.str x))
    (hg : ∀ (A : Around) (E : Value → Shared → Prop) (s : Shared) (t : Tok) (Q : Value × List Value → Shared → Prop), Q (.builtin id, [.str x t]) s → wpAny (model prog w) A (getMethod (.str x t) name pl) Q E s)
    (ha : EvL prog w K n env ex vs e ys)
    (hc : ∀ (A : Around), Room n A → ∀ (s : Shared) (t : Tok) (l : Addr) (us : List Value) (Q : Value → Shared → Prop) (E : Value → Shared → Prop), There ex s.heap → s.heap.IsList l us.toArray → Vals s.heap ex us ys → (∀ v s', Grown s s' → Val s'.heap ex v r → Q v s') → wpAny (model prog w) A (PySem.call (.builtin id) [.str x t, .ref l]) Q E s)
    (he : MethTree env o name apos pos [e] pl)
    (h1 : starEach [e] env = (false, eval e env) :: starEach [] env := by rfl) :
    Ev prog w K n env ex vs (.Call (.Attribute o name apos) [e] [] pos) r := by
  intro A R s Q E S h
  refine MethodCall_ (pl := pl) ?_ he
  refine ho A R s _ _ S fun v s₁ g₁ q₁ => ?_
  cases q₁
  refine @hg A E s₁ _ _ ?_
  refine callWith_method1 (wpAny_items_cons (ha A R s₁ _ _ (S.up g₁) fun l us s₂ g₂ il q₂ => wpAny_items_nil ?_) h1) h1 rfl
  exact hc A R s₂ _ l us Q E ((S.up g₁).up g₂).there il q₂ fun v s₃ g₃ q₃ => h v s₃ ((g₁.trans g₂).trans g₃) q₃
/-- sep.join(e), e a list of texts -/
theorem Ev.joinL {o e : Expr} {apos pos : Pos} {x : Str} {ys : List Str} {pl : Sem Bool} (ho : Ev prog w K n env ex vs o (.str x)) (hy : EvL prog w K n env ex vs e (ys.map .str)) (hx : x.length ≤ 16) (hw : (ys.map (·.length)).sum + ys.length ≤ 1048576) (he : MethTree env o "join" apos pos [e] pl) (h1 : starEach [e] env = (false, eval e env) :: starEach [] env := by rfl) :
    Ev prog w K n env ex vs (.Call (.Attribute o "join" apos) [e] [] pos) (.str (Str.join x ys)) :=
  Ev.methL ho (fun A E s t Q h => by with_reducible exact GM.join h) hy (fun A R s t l us Q E Tt il q h => by
    refine join_listW il (StrsAre.of (by simpa using q)) hx hw fun t' k => ?_
    have e : Txt.join x ys = Str.join x ys := StrLaws.glued_eq_join x ys
    rw [e]
    exact h _ _ (Grown.tok _ _) (.str _ _)) he h1

theorem rep_fold (k : Nat) : ∀ acc : Array Nat, (List.replicate k (T [47]).cps).foldl (· ++ ·) acc = acc ++ (List.replicate k 47).toArray := by
  induction k with
  | zero => intro acc; simp
  | succ k ih =>
    intro acc
    rw [List.replicate_succ, List.foldl_cons, ih, List.replicate_succ]
    apply Array.toList_inj.mp
    simp [T]
theorem op_mul_sep {k : Int} (h0 : 0 ≤ k) (hk : k ≤ 100000) : OpOk prog w n ex (binaryOp .Mult) (.str (T [47])) (.int k) (.str (T (List.replicate k.toNat 47))) := by
  intro A R s Q E u v Tt hu hv h
  cases hu; cases hv
  have hT1 : (T [47]).length = 1 := by simp [T_length]
  refine PySem.P.mul_str (by simp; omega) (fun h1 h2 => ?_) (fun h1 h2 => ?_) ?_
  · rw [hT1]
    have : (1 : Int) ≤ (2 ^ 63 - 1) / k := by
      rw [Int.le_ediv_iff_mul_le (by omega)]; omega
    omega
  · rw [hT1]; unfold tooLong; simp [sizeLine_eq]; omega
  · by_cases h1 : k < 1
    · have : k = 0 := by omega
      subst this
      rw [if_pos (by decide)]
      exact ⟨by decide, h _ _ (Grown.tok s _) (.str _ _)⟩
    · rw [if_neg h1]
      by_cases h2 : (k == 1 || (T [47]).length == 0) = true
      · rw [if_pos h2]
        have : k = 1 := by rw [hT1] at h2; simpa using h2
        subst this
        exact h _ _ (Grown.refl s) (.str _ _)
      · rw [if_neg h2, rep_fold]
        refine ⟨?_, ?_⟩
        · simp [Str.length, sizeLine_eq]; omega
        · have e : (⟨#[] ++ (List.replicate k.toNat 47).toArray⟩ : Str) = T (List.replicate k.toNat 47) := by simp [T]
          rw [e]
          exact h _ _ (Grown.tok s _) (.str _ _)

/-- truth of a list -/
theorem Te.list {e : Expr} {xs : List AV} (he : EvL prog w K n env ex vs e xs) (hsz : xs.length ≤ sizeLine) (hw : isTrue e env (eval e env) = (do let v ← eval e env; standAt e.pos; holding [v] (truthy v)) := by rfl) : Te prog w K n env ex vs e (decide (xs ≠ [])) := by
  intro A R s Q E S h
  refine isTrue_plain (he A R s _ _ S fun l us s₁ g₁ il q₁ => ?_) hw
  have hl := q₁.length
  have hb := sizeLine_eq
  refine wpAny_truthy_list il (by rw [List.size_toArray]; omega) ?_
  have e : (!us.toArray.isEmpty) = decide (xs ≠ []) := by
    cases us with
    | nil => have : xs = [] := List.length_eq_zero_iff.mp (by simpa using hl.symm); subst this; rfl
    | cons u us => cases xs with
      | nil => simp at hl
      | cons x xs => simp
  rw [e]
  exact h _ (g₁.trans (Grown.tok _ _))

/-- x.append(e) -/
theorem Ex.append {x : Str} {px ap p' pos : Pos} {e : Expr} {l : Addr} {xs : List AV} {a : AV} {pl : Sem Bool} (hm : (x, Slot.own l true xs) ∈ vs) (he : Ev prog w K n env ex vs e a) (hsz : xs.length ≤ 100000)
    (u : Upd x (.own l true (xs ++ [a])) vs vs') (hr : Ex prog w n env ex (StS K env h₀ ex vs') rest Q)
    (ht : MethTree env (.Name x px) "append" ap p' [e] pl) (h1 : starEach [e] env = (false, eval e env) :: starEach [] env := by rfl) (hd : (x == ("__debug__" : Str)) = false := by decide)
    (hs : swapsWith (.Call (.Attribute (.Name x px) "append" ap) [e] [] p') none pos.line env = pure false := by rfl) (hi : interactive env = false) :
    Ex prog w n env ex (StS K env h₀ ex vs) (.Expr (.Call (.Attribute (.Name x px) "append" ap) [e] [] p') pos :: rest) Q := by
  intro A R s E hS
  refine wpAny_execs_cons (wpAny_Expr_any (MethodCall_ (pl := pl) ?_ ht) hi hs)
  obtain ⟨gx, hex, us, il, qs⟩ := hS.e.holds _ hm
  refine wpAny_Name (load_name hS.e gx ?_) hd
  obtain ⟨o, ho, hc, hdt, hpl⟩ := id il
  refine getMethod_list_append ho hc (hpl rfl).1 ?_
  refine callWith_method1 (wpAny_items_cons (he A R s _ _ hS.e fun v s₁ g₁ q₁ => wpAny_items_nil ?_) h1) h1 rfl
  have S₁ := hS.grow g₁
  obtain ⟨gx₁, hex₁, us₁, il₁, qs₁⟩ := S₁.e.holds _ hm
  have hb := sizeLine_eq
  have hl := qs₁.length
  refine wpAny_list_append_plain (hsz := by rw [List.size_toArray]; omega) il₁.plain fun h' pl' hsb => ?_
  obtain ⟨S₃, k₃⟩ := S₁.mut (us' := us₁ ++ [v]) hm hsb (ListAt.ofPlain (by simpa using pl')) (qs₁.append (.cons q₁ .nil)) u
  obtain ⟨⟨h₁, tk₁, rfl⟩, k₁⟩ := g₁
  exact ex_then (tk := tk₁) R hr S₃ ((Kept.of_ext k₁).trans k₃)
/-- x.pop() -/
theorem Ex.pop {x : Str} {px ap p' pos : Pos} {l : Addr} {xs : List AV} {a : AV} {pl : Sem Bool} (hm : (x, Slot.own l true (xs ++ [a])) ∈ vs) (hsz : xs.length ≤ 100000)
    (u : Upd x (.own l true xs) vs vs') (hr : Ex prog w n env ex (StS K env h₀ ex vs') rest Q)
    (ht : MethTree env (.Name x px) "pop" ap p' [] pl) (hd : (x == ("__debug__" : Str)) = false := by decide)
    (hs : swapsWith (.Call (.Attribute (.Name x px) "pop" ap) [] [] p') none pos.line env = pure false := by rfl) (hi : interactive env = false) :
    Ex prog w n env ex (StS K env h₀ ex vs) (.Expr (.Call (.Attribute (.Name x px) "pop" ap) [] [] p') pos :: rest) Q := by
  intro A R s E hS
  refine wpAny_execs_cons (wpAny_Expr_any (MethodCall_ (pl := pl) ?_ ht) hi hs)
  obtain ⟨gx, hex, us, il, qs⟩ := hS.e.holds _ hm
  refine wpAny_Name (load_name hS.e gx ?_) hd
  obtain ⟨o, ho, hc, hdt, hpl⟩ := id il
  obtain ⟨kk, hob⟩ := il.plain
  have hl := qs.length
  rw [List.length_append, List.length_singleton] at hl
  have hb := sizeLine_eq
  obtain ⟨ini, y, rfl⟩ : ∃ ini y, us = ini ++ [y] := by
    rcases List.eq_nil_or_concat us with e | ⟨i, y, e⟩
    · subst e; simp at hl
    · exact ⟨i, y, by simpa using e⟩
  refine getMethod_builtin ⟨o, ho, hc⟩ PySem.F.plainAttrs_list PySem.F.slot_list_pop PySem.F.type_list_pop (fun a e => by cases e; exact ⟨o, ho, (hpl rfl).1⟩) ?_
  refine callWith_method0 ?_
  refine Copied.pop_at hob (y := y) (by simp) (fun h' hsb hl' => ?_) (by rw [List.size_toArray]; omega)
  have hv : Vals s.heap ex ini xs := by
    have := qs.take ini.length
    rw [List.take_left] at this
    have hlen : ini.length = xs.length := by simp at hl; omega
    rw [hlen, List.take_left] at this
    exact this
  obtain ⟨S₃, k₃⟩ := hS.mut (us' := ini) hm hsb (ListAt.ofPlain ⟨_, by simpa using hl'⟩) hv u
  exact ex_then (tk := s.toks) R hr S₃ k₃

/-- y = x, x a list of the frame's own: y has it now -/
theorem Ex.move {x y : Str} {px py pos : Pos} {l : Addr} {pp : Bool} {xs : List AV} {vs₁ : Vars} (hm : (x, Slot.own l pp xs) ∈ vs) (u₁ : Upd x .free vs vs₁) (u : Upd y (.own l pp xs) vs₁ vs') (hr : Ex prog w n env ex (StS K env h₀ ex vs') rest Q) (hd : (x == ("__debug__" : Str)) = false := by decide)
    (hs : swapsWith (.Name x px) (some (.Name y py)) pos.line env = pure false := by rfl) : Ex prog w n env ex (StS K env h₀ ex vs) (.Assign [.Name y py] (.Name x px) pos :: rest) Q := by
  intro A R s E hS
  obtain ⟨gx, hex, us, il, qs⟩ := hS.e.holds _ hm
  refine wpAny_execs_cons (wpAny_Assign_Name (wpAny_Name (load_name hS.e gx ?_) hd) hs)
  have names₁ : (vs₁.map (·.1)).Nodup := by rw [u₁.names]; exact hS.names
  have sub : ∀ p ∈ vs₁, p.2 = .free ∨ (p ∈ vs ∧ p.1 ≠ x) := fun p hp => (u₁.mem hS.names p hp).imp (fun e => by rw [e]) id
  have S₁ : StS K env h₀ ex vs₁ s.heap := by
    refine ⟨⟨hS.e.fn, hS.e.gl, hS.e.bl, hS.e.base, hS.e.there, fun p hp => ?_⟩, hS.base0, hS.ns, hS.keep, hS.newL, fun x l pp xs hp => ?_, fun x y l pp qq xs ys hx hy => ?_, hS.cells, hS.celld, names₁, fun p hp => ?_⟩
    · rcases sub p hp with e | e
      · rw [e]; trivial
      · exact hS.e.holds p e.1
    · rcases sub _ hp with e | e
      · cases e
      · exact hS.newO x l pp xs e.1
    · rcases sub _ hx with e | e
      · cases e
      · rcases sub _ hy with e' | e'
        · cases e'
        · exact hS.ownd x y l pp qq xs ys e.1 e'.1
    · have : p.1 ∈ vs.map (·.1) := u₁.names ▸ List.mem_map.mpr ⟨p, hp, rfl⟩
      obtain ⟨q, hq, e⟩ := List.mem_map.mp this
      exact e ▸ hS.kinds q hq
  refine store_slot S₁ u (fun h' g' k il' => ⟨g', hex, us, il' _ _ _ il, qs.moves k fun _ _ n _ => n⟩) (fun l' p' ys e => ?_) fun h' tk S' k => ex_then R hr S' k
  cases e
  refine ⟨hS.newO _ _ _ _ hm, fun z q' zs hz => ?_⟩
  rcases sub _ hz with e | e
  · cases e
  · exact absurd (hS.ownd _ _ _ _ _ _ _ e.1 hm) e.2
end
end Mine

end T_DM

section T_PJb
open PySem PySem.W PyProof.Rows PySem.Calls PySem.Spec
set_option linter.unusedVariables false
set_option linter.unusedSimpArgs false
set_option maxRecDepth 100000
namespace Mine
section
variable {w : World} {n : Nat} {env : Env} {ex : Addr → Prop} {vs : Vars}
theorem Ev.fspath {p pos : Pos} {e : Expr} {x : Str} (hn : 1 ≤ n) (hx : env.kindOf "fspath" = some .globalImplicit) (he : Ev PG w (KK w) n env ex vs e (.str x)) (h1 : starEach [e] env = (false, eval e env) :: starEach [] env) :
    Ev PG w (KK w) n env ex vs (.Call (.Name "fspath" p) [e] [] pos) (.str x) :=
  Ev.call (by kernel_rfl) hx rfl rfl (EvS.cons he EvS.nil h1) ((fspath_ok w x).up hn) ⟨_, _, h1⟩ (by decide)
theorem Ev.sep {p pos : Pos} {e : Expr} {x : Str} (hn : 1 ≤ n) (hx : env.kindOf "_get_sep" = some .globalImplicit) (he : Ev PG w (KK w) n env ex vs e (.str x)) (h1 : starEach [e] env = (false, eval e env) :: starEach [] env) :
    Ev PG w (KK w) n env ex vs (.Call (.Name "_get_sep" p) [e] [] pos) (.str (T [47])) :=
  Ev.call (by kernel_rfl) hx rfl rfl (EvS.cons he EvS.nil h1) ((sep_ok w x).up hn) ⟨_, _, h1⟩ (by decide)
theorem slash_T : Str.ofString "/" = T [47] := by decide +kernel
theorem Ev.slash {k : Nat} {p : Pos} : Ev PG w (KK w) n env ex vs (.Constant (.str "/") k p) (.str (T [47])) := by
  have := @Ev.cstr PG w (KK w) n env ex vs "/" k p
  rw [show (("/" : String) : Str) = T [47] from slash_T] at this
  exact this
theorem Ev.empty {k : Nat} {p : Pos} : Ev PG w (KK w) n env ex vs (.Constant (.str "") k p) (.str (T [])) := by
  have := @Ev.cstr PG w (KK w) n env ex vs "" k p
  rw [show (("" : String) : Str) = T [] by decide +kernel] at this
  exact this
theorem Ev.dot {k : Nat} {p : Pos} : Ev PG w (KK w) n env ex vs (.Constant (.str ".") k p) (.str (T [46])) := by
  have := @Ev.cstr PG w (KK w) n env ex vs "." k p
  rw [show (("." : String) : Str) = T [46] by decide +kernel] at this
  exact this
theorem Ev.dotdot {k : Nat} {p : Pos} : Ev PG w (KK w) n env ex vs (.Constant (.str "..") k p) (.str (T [46, 46])) := by
  have := @Ev.cstr PG w (KK w) n env ex vs ".." k p
  rw [show ((".." : String) : Str) = T [46, 46] by decide +kernel] at this
  exact this
end
local macro_rules | `(tactic| walk_at "d.mem") => `(tactic| first | (with_reducible exact List.mem_cons_self) | ((with_reducible refine' List.mem_cons_of_mem _ ?_); walk_at "d.mem"))
local macro_rules | `(tactic| walk_at "d.upd") => `(tactic| first | (with_reducible exact Upd.head) | ((with_reducible refine' Upd.tail ?hu); (case hu => walk_at "d.upd")))
local macro_rules | `(tactic| walk_at "d.meth") => `(tactic| (unfold MethTree; exact rfl))
local macro_rules | `(tactic| walk_at "d.kind") => `(tactic| (refine' Kinds.get (by assumption) ?_; kernel_rfl))
local macro_rules | `(tactic| walk_at "d.num") => `(tactic| first | assumption | decide | omega | (simp only [sizeLine_eq] at *; omega))
local macro_rules | `(tactic| walk_at "d.op") => `(tactic| first
  | (with_reducible exact op_add_int) | (with_reducible exact op_sub_int) | (with_reducible exact op_eq_str) | (with_reducible exact op_ne_str) | (with_reducible exact op_eq_int) | (with_reducible exact op_ne_int)
  | (with_reducible exact op_lt_int) | (with_reducible exact op_le_int) | (with_reducible exact op_gt_int) | (with_reducible exact op_iadd_int) | (with_reducible exact op_isub_int)
  | ((with_reducible refine' op_add_str ?_); walk_at "d.num") | ((with_reducible refine' op_mul_int ?_); mul_fits))
local macro_rules | `(tactic| walk_at "d.tru") => `(tactic| first | (with_reducible exact tru_bool) | (with_reducible exact tru_none) | (with_reducible exact tru_int) | ((with_reducible refine' tru_str ?_); walk_at "d.num"))
local macro_rules | `(tactic| walk_at "d.ev") => `(tactic| first
  | (with_reducible exact Ev.cint) | (with_reducible exact Ev.cstr) | (with_reducible exact Ev.cbool) | (with_reducible exact Ev.cnone)
  | ((with_reducible refine' Ev.name ?hm ?hd); (case hd => decide); (case hm => walk_at "d.mem"))
  | ((with_reducible refine' Ev.op ?ha ?hb ?ho); (case ha => walk_at "d.ev"); (case hb => walk_at "d.ev"); (case ho => walk_at "d.op"))
  | ((with_reducible refine' Ev.cmp ?ha ?hb ?ho ?hm); (case ha => walk_at "d.ev"); (case hb => walk_at "d.ev"); (case ho => walk_at "d.op"); (case hm => with_unfolding_all rfl))
  | ((with_reducible refine' Ev.lower ?ha ?hn ?hm); (case ha => walk_at "d.ev"); (case hn => walk_at "d.num"); (case hm => walk_at "d.meth"))
  | ((with_reducible refine' Ev.upper ?ha ?hn ?hm); (case ha => walk_at "d.ev"); (case hn => walk_at "d.num"); (case hm => walk_at "d.meth"))
  | ((with_reducible refine' Ev.isupper ?ha ?hm); (case ha => walk_at "d.ev"); (case hm => walk_at "d.meth"))
  | ((with_reducible refine' Ev.strSlice ?ha ?hl ?hu ?hn); (case ha => walk_at "d.ev"); (case hl => walk_at "d.part"); (case hu => walk_at "d.part"); (case hn => walk_at "d.num"))
  | ((with_reducible refine' Ev.itemL (EvL.name ?hm ?hd) ?hb ?h0 ?ha ?hn ?hs); (case hm => walk_at "d.mem"); (case hd => decide); (case hb => walk_at "d.ev"); (case h0 => walk_at "d.num"); (case ha => assumption); (case hn => walk_at "d.num"); (case hs => (intro _ _; with_unfolding_all rfl)))
  | ((with_reducible refine' Ev.strItem ?ha ?hb ?hn ?h1 ?h2 ?hs); (case ha => walk_at "d.ev"); (case hb => walk_at "d.ev"); (case hn => walk_at "d.num"); (case h1 => walk_at "d.num"); (case h2 => walk_at "d.num"); (case hs => (intro _ _; with_unfolding_all rfl)))
  | ((with_reducible refine' Ev.lenStr ?hn ?hk ?ha ?hb ?hs); (case hn => kernel_rfl); (case hk => walk_at "d.kind"); (case ha => walk_at "d.ev"); (case hb => walk_at "d.num"); (case hs => exact rfl))
  | ((with_reducible refine' Ev.min2 ?hn ?hk ?ha ?hb ?hs ?ht ?hu); (case hn => kernel_rfl); (case hk => walk_at "d.kind"); (case ha => walk_at "d.ev"); (case hb => walk_at "d.ev"); (case hs => exact rfl); (case ht => exact rfl); (case hu => exact rfl))
  | ((with_reducible refine' Ev.typeStr ?hn ?hk ?ha ?hs); (case hn => kernel_rfl); (case hk => walk_at "d.kind"); (case ha => walk_at "d.ev"); (case hs => exact rfl))
  | ((with_reducible refine' Ev.isSub ?hn ?hk ?ha ?hb ?hs ?ht ?hu); (case hn => kernel_rfl); (case hk => walk_at "d.kind"); (case ha => walk_at "d.ev"); (case hb => walk_at "d.ev"); (case hs => exact rfl); (case ht => exact rfl); (case hu => exact rfl))
  | ((with_reducible refine' Ev.notBytes ?hn ?hk ?ha ?hb ?hs ?ht ?hu); (case hn => kernel_rfl); (case hk => walk_at "d.kind"); (case ha => walk_at "d.ev"); (case hb => walk_at "d.ev"); (case hs => exact rfl); (case ht => exact rfl); (case hu => exact rfl))
  | ((with_reducible refine' Ev.startswith ?ha ?hb ?hm ?hs); (case ha => walk_at "d.ev"); (case hb => walk_at "d.ev"); (case hm => walk_at "d.meth"); (case hs => exact rfl))
  | ((with_reducible refine' Ev.endswith ?ha ?hb ?hm ?hs); (case ha => walk_at "d.ev"); (case hb => walk_at "d.ev"); (case hm => walk_at "d.meth"); (case hs => exact rfl))
  | ((with_reducible refine' Ev.rfind ?ha ?hb ?hm ?hs); (case ha => walk_at "d.ev"); (case hb => walk_at "d.ev"); (case hm => walk_at "d.meth"); (case hs => exact rfl))
  | ((with_reducible refine' Ev.neg ?ha); (case ha => walk_at "d.ev"))
  | ((with_reducible refine' Ev.tuple ?ha ?hn); (case ha => walk_at "d.evs"); (case hn => exact (by simp [sizeLine_eq])))
  | ((with_reducible refine' Ev.globalInt ?hn ?hk ?hd); (case hn => exact rfl); (case hk => walk_at "d.kind"); (case hd => decide))
  | ((with_reducible refine' Ev.builtin ?hn ?hv ?hk ?hm ?hd); (case hn => kernel_rfl); (case hv => walk_at "d.boot"); (case hk => walk_at "d.kind"); (case hm => decide); (case hd => decide)))
local macro_rules | `(tactic| walk_at "d.boot") => `(tactic| first | (with_reducible exact boot_str_) | (with_reducible exact boot_bytes_))
local macro_rules | `(tactic| walk_at "d.part") => `(tactic| first | (with_reducible exact EvP.nothing) | ((with_reducible refine' EvP.num ?ha); (case ha => walk_at "d.ev")) | ((with_reducible refine' EvP.nil ?ha); (case ha => walk_at "d.ev")))
local macro_rules | `(tactic| walk_at "d.evs") => `(tactic| first | (with_reducible exact EvS.nil) | ((with_reducible refine' EvS.cons ?ha ?hb ?hs); (case ha => walk_at "d.ev"); (case hb => walk_at "d.evs"); (case hs => exact rfl)))
local macro_rules | `(tactic| walk_at "d.te") => `(tactic| first
  | ((with_reducible refine' Te.cmp ?ha ?hb ?ho ?hm); (case ha => walk_at "d.ev"); (case hb => walk_at "d.ev"); (case ho => walk_at "d.op"); (case hm => with_unfolding_all rfl))
  | ((with_reducible refine' Te.not ?ha); walk_at "d.te")
  | ((with_reducible refine' Te.plain ?ha ?hb ?hc); (case ha => walk_at "d.ev"); (case hb => walk_at "d.tru"); (case hc => exact rfl)))
local macro_rules | `(tactic| walk_at "d.ret") => `(tactic| (refine' Ex.ret ?e ?_; (case e => walk_at "d.ev"); exact fun h v S q => ⟨S.keep, q.flat (by constructor)⟩))
local macro_rules | `(tactic| walk_at "d.asg") => `(tactic| (refine' Ex.assign ?e ?u ?_ ?hs; (case e => walk_at "d.ev"); (case u => walk_at "d.upd"); (case hs => exact rfl)))
local macro_rules | `(tactic| walk_at "d.aug") => `(tactic| (refine' Ex.augm ?m ?e ?o ?u ?_; (case m => walk_at "d.mem"); (case e => walk_at "d.ev"); (case o => walk_at "d.op"); (case u => walk_at "d.upd")))
local macro_rules | `(tactic| walk_at "d.fgt") => `(tactic| first | (with_reducible exact Fgt.nil) | ((with_reducible refine' Fgt.same ?hu); (case hu => walk_at "d.fgt")) | ((with_reducible refine' Fgt.free ?hu); (case hu => walk_at "d.fgt")))
local macro_rules | `(tactic| walk_at "d.range1") => `(tactic| ((with_reducible refine' EvR.of1 ?hn ?hk ?ha ?hs); (case hn => kernel_rfl); (case hk => walk_at "d.kind"); (case ha => walk_at "d.ev"); (case hs => exact rfl)))
local macro_rules | `(tactic| walk_at "d.op") => `(tactic| ((with_reducible refine' op_iadd_str ?_); walk_at "d.num"))
local macro_rules | `(tactic| walk_at "d.ev") => `(tactic| first
  | (with_reducible exact Ev.slash) | (with_reducible exact Ev.empty) | (with_reducible exact Ev.dot) | (with_reducible exact Ev.dotdot)
  | ((with_reducible refine' Ev.fspath ?hn ?hx ?he ?hs); (case hn => decide); (case hx => walk_at "d.kind"); (case he => walk_at "d.ev"); (case hs => exact rfl))
  | ((with_reducible refine' Ev.sep ?hn ?hx ?he ?hs); (case hn => decide); (case hx => walk_at "d.kind"); (case he => walk_at "d.ev"); (case hs => exact rfl))
  | ((with_reducible refine' Ev.rstrip1 ?ha ?hb ?hn ?hm ?hs); (case ha => walk_at "d.ev"); (case hb => walk_at "d.ev"); (case hn => walk_at "d.num"); (case hm => walk_at "d.meth"); (case hs => exact rfl))
  | ((with_reducible refine' Ev.splitS ?ha ?hb ?hn ?hm ?hs); (case ha => walk_at "d.ev"); (case hb => walk_at "d.ev"); (case hn => walk_at "d.num"); (case hm => walk_at "d.meth"); (case hs => exact rfl)))
def joinF (x y : List Nat) : List Nat := if y.head? = some 47 ∨ x = [] then y else if x.getLast? = some 47 then x ++ y else x ++ 47 :: y

set_option maxHeartbeats 2000000 in
theorem join_ok (w : World) (x y : List Nat) (hx : x.length ≤ 10000) (hy : y.length ≤ 10000) : CallP PG w (KK w) 2 129 [.str (T x), .str (T y)] (.str (T (joinF x y))) := by
  refine CallP.gen (ps := ["a", "p"]) (ls := ["sep", "path", "b"]) (as' := [.str (T x), .tup [.str (T y)]]) (fun _ => No) rfl rfl (by kernel_rfl) rfl rfl rfl rfl rfl (by decide +kernel) (by kernel_rfl) rfl ?bind (fun _ _ h => h) (fun _ _ h => h.elim) ?_
  case bind =>
    intro M A E Q s us q k
    cases q with
    | cons q1 q =>
    cases q with
    | cons q2 q =>
    cases q
    cases q1 with
    | str _ t1 =>
    cases q2 with
    | str _ t2 =>
    show wpAny M A (newTuple [Value.str (T y) t2] >>= fun t => pure [(Str.ofString "a", Value.str (T x) t1), (Str.ofString "p", t)]) _ E s
    refine wpAny_bind (wpAny_newTuple (wpAny_pure ?_) (by simp [sizeLine_eq]))
    refine k [Value.str (T x) t1, .ref s.heap.objs.size] _ (Grown.push _ _ _) (.cons (.str _ _) (.cons (.tup (fun h => h) ⟨_, Heap.get?_push_size _ rfl, rfl, 0, rfl⟩ (.cons (.str _ _) .nil)) .nil))
  intro env h₀ hk hc B
  (try dsimp only at hk)
  refine Ex.pre (S := StS (KK w) env h₀ No [("a", .val (.str (T x))), ("p", .val (.tup [.str (T y)])), ("sep", .free), ("path", .free), ("b", .free)]) ?_ (fun h q => q)
  walk_at "d.asg"
  walk_at "d.asg"
  walk_at "d.asg"
  refine' Ex.try_ (T := StS (KK w) env h₀ No [("a", .val (.str (T x))), ("p", .val (.tup [.str (T y)])), ("sep", .val (.str (T [47]))), ("path", .val (.str (T (joinF x y)))), ("b", .free)]) ?_ ?_
  · refine' Ex.forI (σ := List Nat) (fun c => [("a", .val (.str (T x))), ("p", .val (.tup [.str (T y)])), ("sep", .val (.str (T [47]))), ("path", .val (.str (T c))), ("b", .free)])
      (fun i c => (i = 0 → c = x) ∧ (i = 1 → c = joinF x y)) (fun _ => False) x (EvI.tup ?it) rfl ⟨fun _ => rfl, fun h => by cases h⟩ ?turn ?done ?brk (by intro _; rfl)
    case it => walk_at "d.ev"
    case brk => exact fun A R s E hS => hS.elim
    case done =>
      intro c hc
      have : c = joinF x y := hc.2 rfl
      subst this
      exact Ex.nil fun h q => q
    case turn =>
      intro i a c hi hc
      have hi0 : i = 0 := by
        have := (List.getElem?_eq_some_iff.mp hi).1
        simp at this; omega
      subst hi0
      have hcx : c = x := hc.1 rfl
      subst hcx
      simp at hi
      subst hi
      refine' ⟨_, ?u, ?body⟩
      case u => walk_at "d.upd"
      have hLx := T_length c
      have hLy := T_length y
      have hLs := T_length [47]
      simp only [List.length_cons, List.length_nil] at hLs
      walk_at "d.asg"
      by_cases h1 : y.head? = some 47 ∨ c = []
      · refine Ex.ite_tt ?t1 ?_
        case t1 =>
          by_cases h2 : y.head? = some 47
          · refine' Te.or_tt (Te.to ?a1 ?a2)
            case a1 => walk_at "d.te"
            case a2 => rw [starts_T, h2]; rfl
          · refine' Te.or_ff (Te.to ?a1 ?a2) (Te.or_tt (Te.to (Te.not ?a3) ?a4))
            case a1 => walk_at "d.te"
            case a2 => rw [starts_T]; simpa using h2
            case a3 => walk_at "d.te"
            case a4 => rw [len_tru0]; simp; exact h1.resolve_left h2
        walk_at "d.asg"
        refine Ex.nil fun h q => ⟨y, ⟨(fun h => by cases h), fun _ => by unfold joinF; rw [if_pos h1]⟩, q.forget ?_⟩
        walk_at "d.fgt"
      · rw [not_or] at h1
        refine Ex.ite_ff ?t1 ?_
        case t1 =>
          refine' Te.or_ff (Te.to ?a1 ?a2) (Te.or_ff (Te.to (Te.not ?a3) ?a4) Te.or_nil)
          case a1 => walk_at "d.te"
          case a2 => rw [starts_T]; simpa using h1.1
          case a3 => walk_at "d.te"
          case a4 => rw [len_tru0]; simpa using h1.2
        by_cases h2 : c.getLast? = some 47
        · refine' Ex.ite_tt (Te.to ?b1 ?b2) ?_
          case b1 => walk_at "d.te"
          case b2 => rw [ends_T, h2]; rfl
          walk_at "d.aug"
          rw [T_append]
          refine Ex.nil fun h q => ⟨c ++ y, ⟨(fun h => by cases h), fun _ => by unfold joinF; rw [if_neg (not_or.mpr h1), if_pos h2]⟩, q.forget ?_⟩
          walk_at "d.fgt"
        · refine' Ex.ite_ff (Te.to ?b1 ?b2) ?_
          case b1 => walk_at "d.te"
          case b2 => rw [ends_T]; simpa using h2
          have hL2 : (T [47] ++ T y).length = y.length + 1 := by rw [T_append, T_length]; simp
          walk_at "d.aug"
          rw [T_append, T_append, show [47] ++ y = 47 :: y from rfl]
          refine Ex.nil fun h q => ⟨c ++ 47 :: y, ⟨(fun h => by cases h), fun _ => by unfold joinF; rw [if_neg (not_or.mpr h1), if_neg h2]⟩, q.forget ?_⟩
          walk_at "d.fgt"
  · walk_at "d.ret"
end Mine

end T_PJb

section T_PSb
open PySem PySem.W PyProof.Rows PySem.Calls PySem.Spec
set_option linter.unusedVariables false
set_option linter.unusedSimpArgs false
set_option maxRecDepth 100000
namespace Mine
local macro_rules | `(tactic| walk_at "d.mem") => `(tactic| first | (with_reducible exact List.mem_cons_self) | ((with_reducible refine' List.mem_cons_of_mem _ ?_); walk_at "d.mem"))
local macro_rules | `(tactic| walk_at "d.upd") => `(tactic| first | (with_reducible exact Upd.head) | ((with_reducible refine' Upd.tail ?hu); (case hu => walk_at "d.upd")))
local macro_rules | `(tactic| walk_at "d.meth") => `(tactic| (unfold MethTree; exact rfl))
local macro_rules | `(tactic| walk_at "d.kind") => `(tactic| (refine' Kinds.get (by assumption) ?_; kernel_rfl))
local macro_rules | `(tactic| walk_at "d.num") => `(tactic| first | assumption | decide | omega | (simp only [sizeLine_eq] at *; omega))
local macro_rules | `(tactic| walk_at "d.op") => `(tactic| first
  | (with_reducible exact op_add_int) | (with_reducible exact op_sub_int) | (with_reducible exact op_eq_str) | (with_reducible exact op_ne_str) | (with_reducible exact op_eq_int) | (with_reducible exact op_ne_int)
  | (with_reducible exact op_lt_int) | (with_reducible exact op_le_int) | (with_reducible exact op_gt_int) | (with_reducible exact op_iadd_int) | (with_reducible exact op_isub_int)
  | ((with_reducible refine' op_add_str ?_); walk_at "d.num") | ((with_reducible refine' op_mul_int ?_); mul_fits))
local macro_rules | `(tactic| walk_at "d.tru") => `(tactic| first | (with_reducible exact tru_bool) | (with_reducible exact tru_none) | (with_reducible exact tru_int) | ((with_reducible refine' tru_str ?_); walk_at "d.num"))
local macro_rules | `(tactic| walk_at "d.ev") => `(tactic| first
  | (with_reducible exact Ev.cint) | (with_reducible exact Ev.cstr) | (with_reducible exact Ev.cbool) | (with_reducible exact Ev.cnone)
  | ((with_reducible refine' Ev.name ?hm ?hd); (case hd => decide); (case hm => walk_at "d.mem"))
  | ((with_reducible refine' Ev.op ?ha ?hb ?ho); (case ha => walk_at "d.ev"); (case hb => walk_at "d.ev"); (case ho => walk_at "d.op"))
  | ((with_reducible refine' Ev.cmp ?ha ?hb ?ho ?hm); (case ha => walk_at "d.ev"); (case hb => walk_at "d.ev"); (case ho => walk_at "d.op"); (case hm => with_unfolding_all rfl))
  | ((with_reducible refine' Ev.lower ?ha ?hn ?hm); (case ha => walk_at "d.ev"); (case hn => walk_at "d.num"); (case hm => walk_at "d.meth"))
  | ((with_reducible refine' Ev.upper ?ha ?hn ?hm); (case ha => walk_at "d.ev"); (case hn => walk_at "d.num"); (case hm => walk_at "d.meth"))
  | ((with_reducible refine' Ev.isupper ?ha ?hm); (case ha => walk_at "d.ev"); (case hm => walk_at "d.meth"))
  | ((with_reducible refine' Ev.strSlice ?ha ?hl ?hu ?hn); (case ha => walk_at "d.ev"); (case hl => walk_at "d.part"); (case hu => walk_at "d.part"); (case hn => walk_at "d.num"))
  | ((with_reducible refine' Ev.itemL (EvL.name ?hm ?hd) ?hb ?h0 ?ha ?hn ?hs); (case hm => walk_at "d.mem"); (case hd => decide); (case hb => walk_at "d.ev"); (case h0 => walk_at "d.num"); (case ha => assumption); (case hn => walk_at "d.num"); (case hs => (intro _ _; with_unfolding_all rfl)))
  | ((with_reducible refine' Ev.strItem ?ha ?hb ?hn ?h1 ?h2 ?hs); (case ha => walk_at "d.ev"); (case hb => walk_at "d.ev"); (case hn => walk_at "d.num"); (case h1 => walk_at "d.num"); (case h2 => walk_at "d.num"); (case hs => (intro _ _; with_unfolding_all rfl)))
  | ((with_reducible refine' Ev.lenStr ?hn ?hk ?ha ?hb ?hs); (case hn => kernel_rfl); (case hk => walk_at "d.kind"); (case ha => walk_at "d.ev"); (case hb => walk_at "d.num"); (case hs => exact rfl))
  | ((with_reducible refine' Ev.min2 ?hn ?hk ?ha ?hb ?hs ?ht ?hu); (case hn => kernel_rfl); (case hk => walk_at "d.kind"); (case ha => walk_at "d.ev"); (case hb => walk_at "d.ev"); (case hs => exact rfl); (case ht => exact rfl); (case hu => exact rfl))
  | ((with_reducible refine' Ev.typeStr ?hn ?hk ?ha ?hs); (case hn => kernel_rfl); (case hk => walk_at "d.kind"); (case ha => walk_at "d.ev"); (case hs => exact rfl))
  | ((with_reducible refine' Ev.isSub ?hn ?hk ?ha ?hb ?hs ?ht ?hu); (case hn => kernel_rfl); (case hk => walk_at "d.kind"); (case ha => walk_at "d.ev"); (case hb => walk_at "d.ev"); (case hs => exact rfl); (case ht => exact rfl); (case hu => exact rfl))
  | ((with_reducible refine' Ev.notBytes ?hn ?hk ?ha ?hb ?hs ?ht ?hu); (case hn => kernel_rfl); (case hk => walk_at "d.kind"); (case ha => walk_at "d.ev"); (case hb => walk_at "d.ev"); (case hs => exact rfl); (case ht => exact rfl); (case hu => exact rfl))
  | ((with_reducible refine' Ev.startswith ?ha ?hb ?hm ?hs); (case ha => walk_at "d.ev"); (case hb => walk_at "d.ev"); (case hm => walk_at "d.meth"); (case hs => exact rfl))
  | ((with_reducible refine' Ev.endswith ?ha ?hb ?hm ?hs); (case ha => walk_at "d.ev"); (case hb => walk_at "d.ev"); (case hm => walk_at "d.meth"); (case hs => exact rfl))
  | ((with_reducible refine' Ev.rfind ?ha ?hb ?hm ?hs); (case ha => walk_at "d.ev"); (case hb => walk_at "d.ev"); (case hm => walk_at "d.meth"); (case hs => exact rfl))
  | ((with_reducible refine' Ev.neg ?ha); (case ha => walk_at "d.ev"))
  | ((with_reducible refine' Ev.tuple ?ha ?hn); (case ha => walk_at "d.evs"); (case hn => exact (by simp [sizeLine_eq])))
  | ((with_reducible refine' Ev.globalInt ?hn ?hk ?hd); (case hn => exact rfl); (case hk => walk_at "d.kind"); (case hd => decide))
  | ((with_reducible refine' Ev.builtin ?hn ?hv ?hk ?hm ?hd); (case hn => kernel_rfl); (case hv => walk_at "d.boot"); (case hk => walk_at "d.kind"); (case hm => decide); (case hd => decide)))
local macro_rules | `(tactic| walk_at "d.boot") => `(tactic| first | (with_reducible exact boot_str_) | (with_reducible exact boot_bytes_))
local macro_rules | `(tactic| walk_at "d.part") => `(tactic| first | (with_reducible exact EvP.nothing) | ((with_reducible refine' EvP.num ?ha); (case ha => walk_at "d.ev")) | ((with_reducible refine' EvP.nil ?ha); (case ha => walk_at "d.ev")))
local macro_rules | `(tactic| walk_at "d.evs") => `(tactic| first | (with_reducible exact EvS.nil) | ((with_reducible refine' EvS.cons ?ha ?hb ?hs); (case ha => walk_at "d.ev"); (case hb => walk_at "d.evs"); (case hs => exact rfl)))
local macro_rules | `(tactic| walk_at "d.te") => `(tactic| first
  | ((with_reducible refine' Te.cmp ?ha ?hb ?ho ?hm); (case ha => walk_at "d.ev"); (case hb => walk_at "d.ev"); (case ho => walk_at "d.op"); (case hm => with_unfolding_all rfl))
  | ((with_reducible refine' Te.not ?ha); walk_at "d.te")
  | ((with_reducible refine' Te.plain ?ha ?hb ?hc); (case ha => walk_at "d.ev"); (case hb => walk_at "d.tru"); (case hc => exact rfl)))
local macro_rules | `(tactic| walk_at "d.ret") => `(tactic| (refine' Ex.ret ?e ?_; (case e => walk_at "d.ev"); exact fun h v S q => ⟨S.keep, q.flat (by constructor)⟩))
local macro_rules | `(tactic| walk_at "d.asg") => `(tactic| (refine' Ex.assign ?e ?u ?_ ?hs; (case e => walk_at "d.ev"); (case u => walk_at "d.upd"); (case hs => exact rfl)))
local macro_rules | `(tactic| walk_at "d.aug") => `(tactic| (refine' Ex.augm ?m ?e ?o ?u ?_; (case m => walk_at "d.mem"); (case e => walk_at "d.ev"); (case o => walk_at "d.op"); (case u => walk_at "d.upd")))
local macro_rules | `(tactic| walk_at "d.fgt") => `(tactic| first | (with_reducible exact Fgt.nil) | ((with_reducible refine' Fgt.same ?hu); (case hu => walk_at "d.fgt")) | ((with_reducible refine' Fgt.free ?hu); (case hu => walk_at "d.fgt")))
local macro_rules | `(tactic| walk_at "d.range1") => `(tactic| ((with_reducible refine' EvR.of1 ?hn ?hk ?ha ?hs); (case hn => kernel_rfl); (case hk => walk_at "d.kind"); (case ha => walk_at "d.ev"); (case hs => exact rfl)))
local macro_rules | `(tactic| walk_at "d.op") => `(tactic| ((with_reducible refine' op_iadd_str ?_); walk_at "d.num"))
local macro_rules | `(tactic| walk_at "d.ev") => `(tactic| first
  | (with_reducible exact Ev.slash) | (with_reducible exact Ev.empty) | (with_reducible exact Ev.dot) | (with_reducible exact Ev.dotdot)
  | ((with_reducible refine' Ev.fspath ?hn ?hx ?he ?hs); (case hn => decide); (case hx => walk_at "d.kind"); (case he => walk_at "d.ev"); (case hs => exact rfl))
  | ((with_reducible refine' Ev.sep ?hn ?hx ?he ?hs); (case hn => decide); (case hx => walk_at "d.kind"); (case he => walk_at "d.ev"); (case hs => exact rfl))
  | ((with_reducible refine' Ev.rstrip1 ?ha ?hb ?hn ?hm ?hs); (case ha => walk_at "d.ev"); (case hb => walk_at "d.ev"); (case hn => walk_at "d.num"); (case hm => walk_at "d.meth"); (case hs => exact rfl))
  | ((with_reducible refine' Ev.splitS ?ha ?hb ?hn ?hm ?hs); (case ha => walk_at "d.ev"); (case hb => walk_at "d.ev"); (case hn => walk_at "d.num"); (case hm => walk_at "d.meth"); (case hs => exact rfl)))
theorem flat1 {x : Str} : ∀ a ∈ [AV.str x], Flat a := fun a ha => by rw [List.mem_singleton.mp ha]; constructor
set_option maxHeartbeats 2000000 in
theorem split_ok (w : World) (h t : List Nat) (ht : 47 ∉ t) (hh : h = [] ∨ ∃ h' c, h = h' ++ [c] ∧ c ≠ 47) (hx : (h ++ 47 :: t).length ≤ 10000) : CallP PG w (KK w) 2 136 [.str (T (h ++ 47 :: t))] (.tup [.str (T (if h = [] then [47] else h)), .str (T t)]) := by
  refine CallP.def (ps := ["p"]) (ls := ["sep", "i", "head", "tail"]) (fun h => Old h) rfl rfl (by kernel_rfl) rfl rfl (by kernel_rfl) rfl rfl rfl (by decide +kernel) (by kernel_rfl) rfl (fun us h => match us, h with | [u], _ => rfl) (fun _ _ h => h.flat flat1) (fun _ _ h => h) ?_
  intro env h₀ hk hc B
  (try dsimp only at hk)
  have hL := T_length (h ++ 47 :: t)
  have hlen : (h ++ 47 :: t).length = h.length + (t.length + 1) := by simp
  refine Ex.pre (S := StS (KK w) env h₀ (Old h₀) [("p", .val (.str (T (h ++ 47 :: t)))), ("sep", .free), ("i", .free), ("head", .free), ("tail", .free)]) ?_ (fun h q => q)
  walk_at "d.asg"
  walk_at "d.asg"
  walk_at "d.asg"
  rw [rfind_T h t ht]
  have e1 : Txt.slice (T (h ++ 47 :: t)) none (some ((h.length : Int) + 1)) = T (h ++ [47]) := by
    rw [show ((h.length : Int) + 1) = ((h.length + 1 : Nat) : Int) by omega, slice_upto _ _ (by omega)]
    congr 1
    rw [show h ++ 47 :: t = (h ++ [47]) ++ t by simp, List.take_left' (by simp)]
  have e2 : Txt.slice (T (h ++ 47 :: t)) (some ((h.length : Int) + 1)) none = T t := by
    rw [show ((h.length : Int) + 1) = ((h.length + 1 : Nat) : Int) by omega, slice_from _ _ (by omega)]
    congr 1
    rw [show h ++ 47 :: t = (h ++ [47]) ++ t by simp, List.drop_left' (by simp)]
  refine' Ex.swap (ps := [("head", .str (T (h ++ [47]))), ("tail", .str (T t))]) (Ev.to ?e ?ee) (Upds.cons (x := "tail") (a := .str (T t)) ?u1 (Upds.cons (x := "head") (a := .str (T (h ++ [47]))) ?u2 Upds.nil)) ?_ ?w rfl
  case e => walk_at "d.ev"
  case ee => rw [e1, e2]; rfl
  case u1 => walk_at "d.upd"
  case u2 => walk_at "d.upd"
  case w => exact swapped_two hk.2 (hk.get (by kernel_rfl)) (hk.get (by kernel_rfl)) rfl (by decide) rfl rfl rfl rfl
  have hLh := T_length (h ++ [47])
  have hLh' : (h ++ [47]).length = h.length + 1 := by simp
  rcases hh with hh | ⟨h', c, hh, hc⟩
  · subst hh
    rw [if_pos rfl]
    refine Ex.ite_ff ?t ?_
    case t =>
      refine' Te.and_tt (Te.to ?a1 ?a2) (Te.and_ff (Te.to (Te.cmp ?b1 (Ev.op ?b2 ?b3 (op_mul_sep ?b4 ?b5)) op_ne_str ?b6) ?b7))
      case a1 => walk_at "d.te"
      case a2 => rw [len_tru0]; simp
      case b1 => walk_at "d.ev"
      case b2 => walk_at "d.ev"
      case b3 => walk_at "d.ev"
      case b4 => omega
      case b5 => omega
      case b6 => with_unfolding_all rfl
      case b7 => rw [hLh, hLh']; rfl
    refine' Ex.ret ?e ?_
    case e => walk_at "d.ev"
    exact fun h v S q => ⟨S.keep, q⟩
  · subst hh
    rw [if_neg (by simp)]
    refine Ex.ite_tt ?t ?_
    case t =>
      refine' Te.and_tt (Te.to ?a1 ?a2) (Te.and_tt (Te.to (Te.cmp ?b1 (Ev.op ?b2 ?b3 (op_mul_sep ?b4 ?b5)) op_ne_str ?b6) ?b7) Te.and_nil)
      case a1 => walk_at "d.te"
      case a2 => rw [len_tru0]; simp
      case b1 => walk_at "d.ev"
      case b2 => walk_at "d.ev"
      case b3 => walk_at "d.ev"
      case b4 => omega
      case b5 => omega
      case b6 => with_unfolding_all rfl
      case b7 =>
        rw [bne, T_beq]
        simp
        intro e
        have := congrArg (fun l => c ∈ l) e
        simp at this
        exact hc this.2
    walk_at "d.asg"
    rw [rstrip_T h' c hc]
    refine' Ex.ret ?e ?_
    case e => walk_at "d.ev"
    exact fun h v S q => ⟨S.keep, q⟩
end Mine

end T_PSb

section T_PRb
open PySem PySem.W PyProof.Rows PySem.Calls PySem.Spec
set_option linter.unusedVariables false
set_option linter.unusedSimpArgs false
set_option maxRecDepth 100000
namespace Mine
local macro_rules | `(tactic| walk_at "d.mem") => `(tactic| first | (with_reducible exact List.mem_cons_self) | ((with_reducible refine' List.mem_cons_of_mem _ ?_); walk_at "d.mem"))
local macro_rules | `(tactic| walk_at "d.upd") => `(tactic| first | (with_reducible exact Upd.head) | ((with_reducible refine' Upd.tail ?hu); (case hu => walk_at "d.upd")))
local macro_rules | `(tactic| walk_at "d.meth") => `(tactic| (unfold MethTree; exact rfl))
local macro_rules | `(tactic| walk_at "d.kind") => `(tactic| (refine' Kinds.get (by assumption) ?_; kernel_rfl))
local macro_rules | `(tactic| walk_at "d.num") => `(tactic| first | assumption | decide | omega | (simp only [sizeLine_eq] at *; omega))
local macro_rules | `(tactic| walk_at "d.op") => `(tactic| first
  | (with_reducible exact op_add_int) | (with_reducible exact op_sub_int) | (with_reducible exact op_eq_str) | (with_reducible exact op_ne_str) | (with_reducible exact op_eq_int) | (with_reducible exact op_ne_int)
  | (with_reducible exact op_lt_int) | (with_reducible exact op_le_int) | (with_reducible exact op_gt_int) | (with_reducible exact op_iadd_int) | (with_reducible exact op_isub_int)
  | ((with_reducible refine' op_add_str ?_); walk_at "d.num") | ((with_reducible refine' op_mul_int ?_); mul_fits))
local macro_rules | `(tactic| walk_at "d.tru") => `(tactic| first | (with_reducible exact tru_bool) | (with_reducible exact tru_none) | (with_reducible exact tru_int) | ((with_reducible refine' tru_str ?_); walk_at "d.num"))
local macro_rules | `(tactic| walk_at "d.ev") => `(tactic| first
  | (with_reducible exact Ev.cint) | (with_reducible exact Ev.cstr) | (with_reducible exact Ev.cbool) | (with_reducible exact Ev.cnone)
  | ((with_reducible refine' Ev.name ?hm ?hd); (case hd => decide); (case hm => walk_at "d.mem"))
  | ((with_reducible refine' Ev.op ?ha ?hb ?ho); (case ha => walk_at "d.ev"); (case hb => walk_at "d.ev"); (case ho => walk_at "d.op"))
  | ((with_reducible refine' Ev.cmp ?ha ?hb ?ho ?hm); (case ha => walk_at "d.ev"); (case hb => walk_at "d.ev"); (case ho => walk_at "d.op"); (case hm => with_unfolding_all rfl))
  | ((with_reducible refine' Ev.lower ?ha ?hn ?hm); (case ha => walk_at "d.ev"); (case hn => walk_at "d.num"); (case hm => walk_at "d.meth"))
  | ((with_reducible refine' Ev.upper ?ha ?hn ?hm); (case ha => walk_at "d.ev"); (case hn => walk_at "d.num"); (case hm => walk_at "d.meth"))
  | ((with_reducible refine' Ev.isupper ?ha ?hm); (case ha => walk_at "d.ev"); (case hm => walk_at "d.meth"))
  | ((with_reducible refine' Ev.strSlice ?ha ?hl ?hu ?hn); (case ha => walk_at "d.ev"); (case hl => walk_at "d.part"); (case hu => walk_at "d.part"); (case hn => walk_at "d.num"))
  | ((with_reducible refine' Ev.itemL (EvL.name ?hm ?hd) ?hb ?h0 ?ha ?hn ?hs); (case hm => walk_at "d.mem"); (case hd => decide); (case hb => walk_at "d.ev"); (case h0 => walk_at "d.num"); (case ha => assumption); (case hn => walk_at "d.num"); (case hs => (intro _ _; with_unfolding_all rfl)))
  | ((with_reducible refine' Ev.strItem ?ha ?hb ?hn ?h1 ?h2 ?hs); (case ha => walk_at "d.ev"); (case hb => walk_at "d.ev"); (case hn => walk_at "d.num"); (case h1 => walk_at "d.num"); (case h2 => walk_at "d.num"); (case hs => (intro _ _; with_unfolding_all rfl)))
  | ((with_reducible refine' Ev.lenStr ?hn ?hk ?ha ?hb ?hs); (case hn => kernel_rfl); (case hk => walk_at "d.kind"); (case ha => walk_at "d.ev"); (case hb => walk_at "d.num"); (case hs => exact rfl))
  | ((with_reducible refine' Ev.min2 ?hn ?hk ?ha ?hb ?hs ?ht ?hu); (case hn => kernel_rfl); (case hk => walk_at "d.kind"); (case ha => walk_at "d.ev"); (case hb => walk_at "d.ev"); (case hs => exact rfl); (case ht => exact rfl); (case hu => exact rfl))
  | ((with_reducible refine' Ev.typeStr ?hn ?hk ?ha ?hs); (case hn => kernel_rfl); (case hk => walk_at "d.kind"); (case ha => walk_at "d.ev"); (case hs => exact rfl))
  | ((with_reducible refine' Ev.isSub ?hn ?hk ?ha ?hb ?hs ?ht ?hu); (case hn => kernel_rfl); (case hk => walk_at "d.kind"); (case ha => walk_at "d.ev"); (case hb => walk_at "d.ev"); (case hs => exact rfl); (case ht => exact rfl); (case hu => exact rfl))
  | ((with_reducible refine' Ev.notBytes ?hn ?hk ?ha ?hb ?hs ?ht ?hu); (case hn => kernel_rfl); (case hk => walk_at "d.kind"); (case ha => walk_at "d.ev"); (case hb => walk_at "d.ev"); (case hs => exact rfl); (case ht => exact rfl); (case hu => exact rfl))
  | ((with_reducible refine' Ev.startswith ?ha ?hb ?hm ?hs); (case ha => walk_at "d.ev"); (case hb => walk_at "d.ev"); (case hm => walk_at "d.meth"); (case hs => exact rfl))
  | ((with_reducible refine' Ev.endswith ?ha ?hb ?hm ?hs); (case ha => walk_at "d.ev"); (case hb => walk_at "d.ev"); (case hm => walk_at "d.meth"); (case hs => exact rfl))
  | ((with_reducible refine' Ev.rfind ?ha ?hb ?hm ?hs); (case ha => walk_at "d.ev"); (case hb => walk_at "d.ev"); (case hm => walk_at "d.meth"); (case hs => exact rfl))
  | ((with_reducible refine' Ev.neg ?ha); (case ha => walk_at "d.ev"))
  | ((with_reducible refine' Ev.tuple ?ha ?hn); (case ha => walk_at "d.evs"); (case hn => exact (by simp [sizeLine_eq])))
  | ((with_reducible refine' Ev.globalInt ?hn ?hk ?hd); (case hn => exact rfl); (case hk => walk_at "d.kind"); (case hd => decide))
  | ((with_reducible refine' Ev.builtin ?hn ?hv ?hk ?hm ?hd); (case hn => kernel_rfl); (case hv => walk_at "d.boot"); (case hk => walk_at "d.kind"); (case hm => decide); (case hd => decide)))
local macro_rules | `(tactic| walk_at "d.boot") => `(tactic| first | (with_reducible exact boot_str_) | (with_reducible exact boot_bytes_))
local macro_rules | `(tactic| walk_at "d.part") => `(tactic| first | (with_reducible exact EvP.nothing) | ((with_reducible refine' EvP.num ?ha); (case ha => walk_at "d.ev")) | ((with_reducible refine' EvP.nil ?ha); (case ha => walk_at "d.ev")))
local macro_rules | `(tactic| walk_at "d.evs") => `(tactic| first | (with_reducible exact EvS.nil) | ((with_reducible refine' EvS.cons ?ha ?hb ?hs); (case ha => walk_at "d.ev"); (case hb => walk_at "d.evs"); (case hs => exact rfl)))
local macro_rules | `(tactic| walk_at "d.te") => `(tactic| first
  | ((with_reducible refine' Te.cmp ?ha ?hb ?ho ?hm); (case ha => walk_at "d.ev"); (case hb => walk_at "d.ev"); (case ho => walk_at "d.op"); (case hm => with_unfolding_all rfl))
  | ((with_reducible refine' Te.not ?ha); walk_at "d.te")
  | ((with_reducible refine' Te.plain ?ha ?hb ?hc); (case ha => walk_at "d.ev"); (case hb => walk_at "d.tru"); (case hc => exact rfl)))
local macro_rules | `(tactic| walk_at "d.ret") => `(tactic| (refine' Ex.ret ?e ?_; (case e => walk_at "d.ev"); exact fun h v S q => ⟨S.keep, q.flat (by constructor)⟩))
local macro_rules | `(tactic| walk_at "d.asg") => `(tactic| (refine' Ex.assign ?e ?u ?_ ?hs; (case e => walk_at "d.ev"); (case u => walk_at "d.upd"); (case hs => exact rfl)))
local macro_rules | `(tactic| walk_at "d.aug") => `(tactic| (refine' Ex.augm ?m ?e ?o ?u ?_; (case m => walk_at "d.mem"); (case e => walk_at "d.ev"); (case o => walk_at "d.op"); (case u => walk_at "d.upd")))
local macro_rules | `(tactic| walk_at "d.fgt") => `(tactic| first | (with_reducible exact Fgt.nil) | ((with_reducible refine' Fgt.same ?hu); (case hu => walk_at "d.fgt")) | ((with_reducible refine' Fgt.free ?hu); (case hu => walk_at "d.fgt")))
local macro_rules | `(tactic| walk_at "d.range1") => `(tactic| ((with_reducible refine' EvR.of1 ?hn ?hk ?ha ?hs); (case hn => kernel_rfl); (case hk => walk_at "d.kind"); (case ha => walk_at "d.ev"); (case hs => exact rfl)))
local macro_rules | `(tactic| walk_at "d.op") => `(tactic| ((with_reducible refine' op_iadd_str ?_); walk_at "d.num"))
local macro_rules | `(tactic| walk_at "d.ev") => `(tactic| first
  | (with_reducible exact Ev.slash) | (with_reducible exact Ev.empty) | (with_reducible exact Ev.dot) | (with_reducible exact Ev.dotdot)
  | ((with_reducible refine' Ev.fspath ?hn ?hx ?he ?hs); (case hn => decide); (case hx => walk_at "d.kind"); (case he => walk_at "d.ev"); (case hs => exact rfl))
  | ((with_reducible refine' Ev.sep ?hn ?hx ?he ?hs); (case hn => decide); (case hx => walk_at "d.kind"); (case he => walk_at "d.ev"); (case hs => exact rfl))
  | ((with_reducible refine' Ev.rstrip1 ?ha ?hb ?hn ?hm ?hs); (case ha => walk_at "d.ev"); (case hb => walk_at "d.ev"); (case hn => walk_at "d.num"); (case hm => walk_at "d.meth"); (case hs => exact rfl))
  | ((with_reducible refine' Ev.splitS ?ha ?hb ?hn ?hm ?hs); (case ha => walk_at "d.ev"); (case hb => walk_at "d.ev"); (case hn => walk_at "d.num"); (case hm => walk_at "d.meth"); (case hs => exact rfl)))
theorem slice_mid' (l : List Nat) (i j : Nat) (hij : i ≤ j) (a b : Int) (ha : a = i) (hb : b = j) : Txt.slice (T l) (some a) (some b) = T ((l.drop i).take (j - i)) := by rw [ha, hb]; exact slice_mid l i j hij
set_option maxHeartbeats 2000000 in
theorem splitroot_ok (w : World) (r : List Nat) (hr : r.head? ≠ some 47) (hx : r.length ≤ 10000) : CallP PG w (KK w) 2 143 [.str (T (47 :: r))] (.tup [.str (T []), .str (T [47]), .str (T r)]) := by
  refine CallP.def (ps := ["p"]) (ls := ["sep", "empty"]) (fun h => Old h) rfl rfl (by kernel_rfl) rfl rfl (by kernel_rfl) rfl rfl rfl (by decide +kernel) (by kernel_rfl) rfl (fun us h => match us, h with | [u], _ => rfl) (fun _ _ h => h.flat flat1) (fun _ _ h => h) ?_
  intro env h₀ hk hc B
  (try dsimp only at hk)
  have hL := T_length (47 :: r)
  have hlen : (47 :: r).length = r.length + 1 := by simp
  refine Ex.pre (S := StS (KK w) env h₀ (Old h₀) [("p", .val (.str (T (47 :: r)))), ("sep", .free), ("empty", .free)]) ?_ (fun h q => q)
  walk_at "d.asg"
  refine' Ex.ite_ff (Te.plain ?t1 tru_bool rfl) ?_
  case t1 => walk_at "d.ev"
  walk_at "d.asg"
  walk_at "d.asg"
  refine' Ex.ite_ff (Te.to ?t1 ?t2) ?_
  case t1 => walk_at "d.te"
  case t2 =>
    rw [show (1 : Int) = ((1 : Nat) : Int) from rfl, slice_uptoMin, bne, T_beq]
    simp
  refine' Ex.ite_tt (Te.or_tt (Te.to ?t1 ?t2)) ?_
  case t1 => walk_at "d.te"
  case t2 =>
    rw [slice_mid' _ 1 2 (by omega) 1 2 rfl rfl, bne, T_beq]
    cases r with
    | nil => simp
    | cons c r => simp at hr; simp [hr]
  refine' Ex.ret (Ev.to ?e ?e2) ?_
  case e => walk_at "d.ev"
  case e2 => rw [show (1 : Int) = ((1 : Nat) : Int) from rfl, slice_from _ 1 (by omega)]
  exact fun h v S q => ⟨S.keep, q⟩

def nstep (acc : List (List Nat)) (c : List Nat) : List (List Nat) :=
  if c = [] ∨ c = [46] then acc else if c ≠ [46, 46] ∨ acc.getLast? = some [46, 46] then acc ++ [c] else acc.dropLast
def normF (r : List Nat) : List Nat := 47 :: jn ((sp r).foldl nstep [])
def wt (acc : List (List Nat)) : Nat := (acc.map (·.length)).sum + acc.length
theorem wt_app (a : List (List Nat)) (c : List Nat) : wt (a ++ [c]) = wt a + c.length + 1 := by unfold wt; simp; omega
theorem wt_step (acc : List (List Nat)) (c : List Nat) : wt (nstep acc c) ≤ wt acc + c.length + 1 := by
  unfold nstep
  split
  · omega
  · split
    · rw [wt_app]; omega
    · rcases List.eq_nil_or_concat acc with e | ⟨i, y, e⟩
      · subst e; simp [wt]
      · rw [List.concat_eq_append] at e; subst e; rw [List.dropLast_concat, wt_app]; omega
theorem wt_cons (c : List Nat) (a : List (List Nat)) : wt (c :: a) = c.length + 1 + wt a := by unfold wt; simp; omega
theorem wt_fold : ∀ (cs acc : List (List Nat)), wt (cs.foldl nstep acc) ≤ wt acc + wt cs
  | [], acc => by simp [wt]
  | c :: cs, acc => by
    have h1 := wt_fold cs (nstep acc c)
    have h2 := wt_step acc c
    rw [List.foldl_cons, wt_cons]
    omega
theorem wt_sp : ∀ l : List Nat, wt (sp l) = l.length + 1
  | [] => rfl
  | c :: l => by
    have ih := wt_sp l
    unfold sp
    split
    · rw [wt_cons, ih]; simp; omega
    · obtain ⟨p, ps, e⟩ := sp_ne l
      rw [e, wt_cons] at ih
      rw [e]
      show wt ((c :: p) :: ps) = _
      rw [wt_cons]; simp; omega
theorem jn_len : ∀ ps : List (List Nat), (jn ps).length ≤ wt ps
  | [] => by simp [jn]
  | [p] => by simp [jn, wt]
  | p :: q :: ps => by
    have ih := jn_len (q :: ps)
    rw [wt_cons]
    simp [jn]; omega
theorem len_wt (acc : List (List Nat)) : acc.length ≤ wt acc := by unfold wt; omega
end Mine

end T_PRb

section T_PNb
open PySem PySem.W PyProof.Rows PySem.Calls PySem.Spec
set_option linter.unusedVariables false
set_option linter.unusedSimpArgs false
set_option maxRecDepth 100000
namespace Mine
local macro_rules | `(tactic| walk_at "d.mem") => `(tactic| first | (with_reducible exact List.mem_cons_self) | ((with_reducible refine' List.mem_cons_of_mem _ ?_); walk_at "d.mem"))
local macro_rules | `(tactic| walk_at "d.upd") => `(tactic| first | (with_reducible exact Upd.head) | ((with_reducible refine' Upd.tail ?hu); (case hu => walk_at "d.upd")))
local macro_rules | `(tactic| walk_at "d.meth") => `(tactic| (unfold MethTree; exact rfl))
local macro_rules | `(tactic| walk_at "d.kind") => `(tactic| (refine' Kinds.get (by assumption) ?_; kernel_rfl))
local macro_rules | `(tactic| walk_at "d.num") => `(tactic| first | assumption | decide | omega | (simp only [sizeLine_eq] at *; omega))
local macro_rules | `(tactic| walk_at "d.op") => `(tactic| first
  | (with_reducible exact op_add_int) | (with_reducible exact op_sub_int) | (with_reducible exact op_eq_str) | (with_reducible exact op_ne_str) | (with_reducible exact op_eq_int) | (with_reducible exact op_ne_int)
  | (with_reducible exact op_lt_int) | (with_reducible exact op_le_int) | (with_reducible exact op_gt_int) | (with_reducible exact op_iadd_int) | (with_reducible exact op_isub_int)
  | ((with_reducible refine' op_add_str ?_); walk_at "d.num") | ((with_reducible refine' op_mul_int ?_); mul_fits))
local macro_rules | `(tactic| walk_at "d.tru") => `(tactic| first | (with_reducible exact tru_bool) | (with_reducible exact tru_none) | (with_reducible exact tru_int) | ((with_reducible refine' tru_str ?_); walk_at "d.num"))
local macro_rules | `(tactic| walk_at "d.ev") => `(tactic| first
  | (with_reducible exact Ev.cint) | (with_reducible exact Ev.cstr) | (with_reducible exact Ev.cbool) | (with_reducible exact Ev.cnone)
  | ((with_reducible refine' Ev.name ?hm ?hd); (case hd => decide); (case hm => walk_at "d.mem"))
  | ((with_reducible refine' Ev.op ?ha ?hb ?ho); (case ha => walk_at "d.ev"); (case hb => walk_at "d.ev"); (case ho => walk_at "d.op"))
  | ((with_reducible refine' Ev.cmp ?ha ?hb ?ho ?hm); (case ha => walk_at "d.ev"); (case hb => walk_at "d.ev"); (case ho => walk_at "d.op"); (case hm => with_unfolding_all rfl))
  | ((with_reducible refine' Ev.lower ?ha ?hn ?hm); (case ha => walk_at "d.ev"); (case hn => walk_at "d.num"); (case hm => walk_at "d.meth"))
  | ((with_reducible refine' Ev.upper ?ha ?hn ?hm); (case ha => walk_at "d.ev"); (case hn => walk_at "d.num"); (case hm => walk_at "d.meth"))
  | ((with_reducible refine' Ev.isupper ?ha ?hm); (case ha => walk_at "d.ev"); (case hm => walk_at "d.meth"))
  | ((with_reducible refine' Ev.strSlice ?ha ?hl ?hu ?hn); (case ha => walk_at "d.ev"); (case hl => walk_at "d.part"); (case hu => walk_at "d.part"); (case hn => walk_at "d.num"))
  | ((with_reducible refine' Ev.itemL (EvL.name ?hm ?hd) ?hb ?h0 ?ha ?hn ?hs); (case hm => walk_at "d.mem"); (case hd => decide); (case hb => walk_at "d.ev"); (case h0 => walk_at "d.num"); (case ha => assumption); (case hn => walk_at "d.num"); (case hs => (intro _ _; with_unfolding_all rfl)))
  | ((with_reducible refine' Ev.strItem ?ha ?hb ?hn ?h1 ?h2 ?hs); (case ha => walk_at "d.ev"); (case hb => walk_at "d.ev"); (case hn => walk_at "d.num"); (case h1 => walk_at "d.num"); (case h2 => walk_at "d.num"); (case hs => (intro _ _; with_unfolding_all rfl)))
  | ((with_reducible refine' Ev.lenStr ?hn ?hk ?ha ?hb ?hs); (case hn => kernel_rfl); (case hk => walk_at "d.kind"); (case ha => walk_at "d.ev"); (case hb => walk_at "d.num"); (case hs => exact rfl))
  | ((with_reducible refine' Ev.min2 ?hn ?hk ?ha ?hb ?hs ?ht ?hu); (case hn => kernel_rfl); (case hk => walk_at "d.kind"); (case ha => walk_at "d.ev"); (case hb => walk_at "d.ev"); (case hs => exact rfl); (case ht => exact rfl); (case hu => exact rfl))
  | ((with_reducible refine' Ev.typeStr ?hn ?hk ?ha ?hs); (case hn => kernel_rfl); (case hk => walk_at "d.kind"); (case ha => walk_at "d.ev"); (case hs => exact rfl))
  | ((with_reducible refine' Ev.isSub ?hn ?hk ?ha ?hb ?hs ?ht ?hu); (case hn => kernel_rfl); (case hk => walk_at "d.kind"); (case ha => walk_at "d.ev"); (case hb => walk_at "d.ev"); (case hs => exact rfl); (case ht => exact rfl); (case hu => exact rfl))
  | ((with_reducible refine' Ev.notBytes ?hn ?hk ?ha ?hb ?hs ?ht ?hu); (case hn => kernel_rfl); (case hk => walk_at "d.kind"); (case ha => walk_at "d.ev"); (case hb => walk_at "d.ev"); (case hs => exact rfl); (case ht => exact rfl); (case hu => exact rfl))
  | ((with_reducible refine' Ev.startswith ?ha ?hb ?hm ?hs); (case ha => walk_at "d.ev"); (case hb => walk_at "d.ev"); (case hm => walk_at "d.meth"); (case hs => exact rfl))
  | ((with_reducible refine' Ev.endswith ?ha ?hb ?hm ?hs); (case ha => walk_at "d.ev"); (case hb => walk_at "d.ev"); (case hm => walk_at "d.meth"); (case hs => exact rfl))
  | ((with_reducible refine' Ev.rfind ?ha ?hb ?hm ?hs); (case ha => walk_at "d.ev"); (case hb => walk_at "d.ev"); (case hm => walk_at "d.meth"); (case hs => exact rfl))
  | ((with_reducible refine' Ev.neg ?ha); (case ha => walk_at "d.ev"))
  | ((with_reducible refine' Ev.tuple ?ha ?hn); (case ha => walk_at "d.evs"); (case hn => exact (by simp [sizeLine_eq])))
  | ((with_reducible refine' Ev.globalInt ?hn ?hk ?hd); (case hn => exact rfl); (case hk => walk_at "d.kind"); (case hd => decide))
  | ((with_reducible refine' Ev.builtin ?hn ?hv ?hk ?hm ?hd); (case hn => kernel_rfl); (case hv => walk_at "d.boot"); (case hk => walk_at "d.kind"); (case hm => decide); (case hd => decide)))
local macro_rules | `(tactic| walk_at "d.boot") => `(tactic| first | (with_reducible exact boot_str_) | (with_reducible exact boot_bytes_))
local macro_rules | `(tactic| walk_at "d.part") => `(tactic| first | (with_reducible exact EvP.nothing) | ((with_reducible refine' EvP.num ?ha); (case ha => walk_at "d.ev")) | ((with_reducible refine' EvP.nil ?ha); (case ha => walk_at "d.ev")))
local macro_rules | `(tactic| walk_at "d.evs") => `(tactic| first | (with_reducible exact EvS.nil) | ((with_reducible refine' EvS.cons ?ha ?hb ?hs); (case ha => walk_at "d.ev"); (case hb => walk_at "d.evs"); (case hs => exact rfl)))
local macro_rules | `(tactic| walk_at "d.te") => `(tactic| first
  | ((with_reducible refine' Te.cmp ?ha ?hb ?ho ?hm); (case ha => walk_at "d.ev"); (case hb => walk_at "d.ev"); (case ho => walk_at "d.op"); (case hm => with_unfolding_all rfl))
  | ((with_reducible refine' Te.not ?ha); walk_at "d.te")
  | ((with_reducible refine' Te.plain ?ha ?hb ?hc); (case ha => walk_at "d.ev"); (case hb => walk_at "d.tru"); (case hc => exact rfl)))
local macro_rules | `(tactic| walk_at "d.ret") => `(tactic| (refine' Ex.ret ?e ?_; (case e => walk_at "d.ev"); exact fun h v S q => ⟨S.keep, q.flat (by constructor)⟩))
local macro_rules | `(tactic| walk_at "d.asg") => `(tactic| (refine' Ex.assign ?e ?u ?_ ?hs; (case e => walk_at "d.ev"); (case u => walk_at "d.upd"); (case hs => exact rfl)))
local macro_rules | `(tactic| walk_at "d.aug") => `(tactic| (refine' Ex.augm ?m ?e ?o ?u ?_; (case m => walk_at "d.mem"); (case e => walk_at "d.ev"); (case o => walk_at "d.op"); (case u => walk_at "d.upd")))
local macro_rules | `(tactic| walk_at "d.fgt") => `(tactic| first | (with_reducible exact Fgt.nil) | ((with_reducible refine' Fgt.same ?hu); (case hu => walk_at "d.fgt")) | ((with_reducible refine' Fgt.free ?hu); (case hu => walk_at "d.fgt")))
local macro_rules | `(tactic| walk_at "d.range1") => `(tactic| ((with_reducible refine' EvR.of1 ?hn ?hk ?ha ?hs); (case hn => kernel_rfl); (case hk => walk_at "d.kind"); (case ha => walk_at "d.ev"); (case hs => exact rfl)))
local macro_rules | `(tactic| walk_at "d.op") => `(tactic| ((with_reducible refine' op_iadd_str ?_); walk_at "d.num"))
local macro_rules | `(tactic| walk_at "d.ev") => `(tactic| first
  | (with_reducible exact Ev.slash) | (with_reducible exact Ev.empty) | (with_reducible exact Ev.dot) | (with_reducible exact Ev.dotdot)
  | ((with_reducible refine' Ev.fspath ?hn ?hx ?he ?hs); (case hn => decide); (case hx => walk_at "d.kind"); (case he => walk_at "d.ev"); (case hs => exact rfl))
  | ((with_reducible refine' Ev.sep ?hn ?hx ?he ?hs); (case hn => decide); (case hx => walk_at "d.kind"); (case he => walk_at "d.ev"); (case hs => exact rfl))
  | ((with_reducible refine' Ev.rstrip1 ?ha ?hb ?hn ?hm ?hs); (case ha => walk_at "d.ev"); (case hb => walk_at "d.ev"); (case hn => walk_at "d.num"); (case hm => walk_at "d.meth"); (case hs => exact rfl))
  | ((with_reducible refine' Ev.splitS ?ha ?hb ?hn ?hm ?hs); (case ha => walk_at "d.ev"); (case hb => walk_at "d.ev"); (case hn => walk_at "d.num"); (case hm => walk_at "d.meth"); (case hs => exact rfl)))
abbrev nv (x : List Nat) (us ini comps new comp : Slot) : Vars := [("path", .val (.str (T x))), ("sep", .val (.str (T [47]))), ("dot", .val (.str (T [46]))), ("dotdot", .val (.str (T [46, 46]))), ("_", us), ("initial_slashes", ini), ("comps", comps), ("new_comps", new), ("comp", comp)]
abbrev sv (l : List (List Nat)) : List AV := l.map fun p => .str (T p)
theorem interactive_of {env : Env} {nm : List (Str × NameKind)} (hk : Kinds env nm) : interactive env = false := by
  unfold interactive; rw [hk.2]; rfl
theorem le_sum_mem : ∀ {l : List Nat} {a : Nat}, a ∈ l → a ≤ l.sum
  | b :: l, a, h => by
    rcases List.mem_cons.mp h with e | h
    · subst e; simp
    · have := le_sum_mem h; simp; omega
theorem EvL.to {prog : Program} {w : World} {K : Frag} {n : Nat} {env : Env} {ex : Addr → Prop} {vs : Vars} {e : Expr} {xs ys : List AV} (h : EvL prog w K n env ex vs e xs) (hb : xs = ys) : EvL prog w K n env ex vs e ys := hb ▸ h
theorem sv_last (ini : List (List Nat)) (y : List Nat) : (sv (ini ++ [y]))[((-1 : Int) + ((sv (ini ++ [y])).length : Int)).toNat]? = some (.str (T y)) := by
  have e : ((-1 : Int) + ((sv (ini ++ [y])).length : Int)).toNat = ini.length := by simp; omega
  rw [e]; simp
set_option maxHeartbeats 4000000 in
theorem normpath_ok (w : World) (r : List Nat) (hr : r.head? ≠ some 47) (hx : r.length ≤ 5000) : CallP PG w (KK w) 3 150 [.str (T (47 :: r))] (.str (T (normF r))) := by
  refine CallP.def (ps := ["path"]) (ls := ["sep", "dot", "dotdot", "_", "initial_slashes", "comps", "new_comps", "comp"]) (fun _ => No) rfl rfl (by kernel_rfl) rfl rfl (by kernel_rfl) rfl rfl rfl (by decide +kernel) (by kernel_rfl) rfl (fun us h => match us, h with | [u], _ => rfl) (fun _ _ h => h) (fun _ _ h => h.elim) ?_
  intro env h₀ hk hc B
  (try dsimp only at hk)
  have hL := T_length (47 :: r)
  have hlen : (47 :: r).length = r.length + 1 := by simp
  refine Ex.pre (S := StS (KK w) env h₀ No [("path", .val (.str (T (47 :: r)))), ("sep", .free), ("dot", .free), ("dotdot", .free), ("_", .free), ("initial_slashes", .free), ("comps", .free), ("new_comps", .free), ("comp", .free)]) ?_ (fun h q => q)
  walk_at "d.asg"
  refine' Ex.ite_ff (Te.plain ?t1 tru_bool rfl) ?_
  case t1 => walk_at "d.ev"
  walk_at "d.asg"
  walk_at "d.asg"
  walk_at "d.asg"
  refine' Ex.ite_ff (Te.to (Te.not ?t1) ?t2) ?_
  case t1 => walk_at "d.te"
  case t2 => rw [len_tru0]; simp
  refine' Ex.unpack (ps := [("_", .str (T [])), ("initial_slashes", .str (T [47])), ("path", .str (T r))]) (Ev.call ?g1 ?g2 rfl rfl ?g3 (splitroot_ok w r hr (by omega)) ⟨_, _, rfl⟩ (by decide)) (.cons (.cons (.cons .nil))) (.cons ?u1 (.cons ?u2 (.cons ?u3 .nil))) ?_ rfl rfl
  case g1 => kernel_rfl
  case g2 => walk_at "d.kind"
  case g3 => walk_at "d.evs"
  case u1 => walk_at "d.upd"
  case u2 => walk_at "d.upd"
  case u3 => walk_at "d.upd"
  have hLr := T_length r
  walk_at "d.asg"
  refine' Ex.own (pp := true) (xs := sv []) (Ev.list EvS.nil (by simp)) (fun l => ?u) (fun l => ?_) rfl
  case u => walk_at "d.upd"
  have hwt := wt_sp r
  have hspl : (sp r).length ≤ r.length + 1 := split_le r
  have hw47 := T_length [47]
  simp only [List.length_cons, List.length_nil] at hw47
  refine' Ex.forI (σ := List (List Nat)) (fun c => nv r (.val (.str (T []))) (.val (.str (T [47]))) (.val (.list (sv (sp r)))) (.own l true (sv c)) .free)
    (fun i c => c = ((sp r).take i).foldl nstep []) (fun _ => False) [] (EvI.list ?it) rfl rfl ?turn ?done ?brk (by intro _; rfl)
  case it => walk_at "d.ev"
  case brk => exact fun A R s E hS => hS.elim
  case done =>
    intro c hc
    have hcF : c = (sp r).foldl nstep [] := by
      rw [hc, show (List.map (fun p => AV.str (T p)) (sp r)).length = (sp r).length by simp, List.take_length]
    have hwc : wt c ≤ r.length + 1 := by
      have := wt_fold (sp r) []
      rw [← hcF, hwt] at this
      simpa [wt] using this
    refine' Ex.move (l := l) (pp := true) (xs := sv c) ?m ?u1 ?u2 ?_ (by decide) rfl
    case m => walk_at "d.mem"
    case u1 => walk_at "d.upd"
    case u2 => walk_at "d.upd"
    have hjl := jn_len c
    have hjw : ((c.map T).map (·.length)).sum + (c.map T).length ≤ 1048576 := by
      rw [List.map_map, List.length_map]
      have : (List.map ((fun x : Str => x.length) ∘ T) c) = c.map (·.length) := List.map_congr_left fun x _ => T_length x
      rw [this]
      unfold wt at hwc; omega
    refine' Ex.assign (Ev.to (Ev.op ?e1 (Ev.joinL (ys := c.map T) ?e2 (EvL.to (xs := sv c) (EvL.name (l := l) (pp := true) ?e3 ?e4) ?e30) ?e5 hjw ?e6 ?e7) (op_add_str ?e8)) ?e9) ?u ?_ ?hs
    case e1 => walk_at "d.ev"
    case e2 => walk_at "d.ev"
    case e3 => walk_at "d.mem"
    case e30 => rw [List.map_map]; rfl
    case e4 => decide
    case e5 => omega
    case e6 => walk_at "d.meth"
    case e7 => exact rfl
    case e8 => rw [join_T, hw47, T_length]; have := sizeLine_eq; omega
    case e9 => exact (by rw [join_T, T_append] : AV.str (T [47] ++ Str.join (T [47]) (c.map T)) = AV.str (T ([47] ++ jn c)))
    case u => walk_at "d.upd"
    case hs => exact rfl
    have hLn := T_length ([47] ++ jn c)
    have hLn' : ([47] ++ jn c).length = (jn c).length + 1 := by simp
    rw [show normF r = [47] ++ jn c by unfold normF; rw [← hcF]; rfl]
    refine' Ex.ret (Ev.or_tt ?e ?t) ?_
    case e => walk_at "d.ev"
    case t =>
      have := @tru_str PG w 2 (Add No l) (T ([47] ++ jn c)) (by have := sizeLine_eq; omega)
      rw [len_tru0] at this
      simpa using this
    exact fun h v S q => ⟨S.keep, q.flat (by constructor)⟩
  case turn =>
    intro i a c hi hc
    obtain ⟨p, hp, ha⟩ : ∃ p, (sp r)[i]? = some p ∧ a = .str (T p) := by
      simp at hi
      obtain ⟨p, h1, h2⟩ := hi
      exact ⟨p, h1, h2.symm⟩
    subst ha
    have hnext : ∀ c', c' = nstep c p → c' = ((sp r).take (i + 1)).foldl nstep [] := by
      intro c' h'
      rw [h', hc, List.take_add_one, hp, List.foldl_append]
      rfl
    have hpl : p.length ≤ r.length + 1 := by
      have : p.length ≤ wt (sp r) := by
        unfold wt
        have := le_sum_mem (List.mem_map.mpr ⟨p, List.mem_of_getElem? hp, rfl⟩ : p.length ∈ (sp r).map (·.length))
        omega
      omega
    have hLp := T_length p
    have hcl : c.length ≤ 10000 := by
      have h1 := wt_fold ((sp r).take i) []
      have h2 := len_wt c
      rw [← hc] at h1
      have h3 : wt ((sp r).take i) ≤ wt (sp r) := by
        have e := List.take_append_drop i (sp r)
        conv => rhs; rw [← e]
        unfold wt
        simp only [List.map_append, List.sum_append, List.length_append]
        omega
      have h4 : wt [] = 0 := rfl
      omega
    clear hc
    have hLc : (sv c).length = c.length := by simp
    refine' ⟨_, ?u, ?body⟩
    case u => walk_at "d.upd"
    by_cases h1 : p = [] ∨ p = [46]
    · refine Ex.ite_tt ?t ?_
      case t =>
        by_cases h2 : p = []
        · refine' Te.or_tt (Te.to (Te.not ?a1) ?a2)
          case a1 => walk_at "d.te"
          case a2 => rw [len_tru0]; simpa using h2
        · refine' Te.or_ff (Te.to (Te.not ?a1) ?a2) (Te.or_tt (Te.to ?a3 ?a4))
          case a1 => walk_at "d.te"
          case a2 => rw [len_tru0]; simpa using h2
          case a3 => walk_at "d.te"
          case a4 => rw [T_beq]; simpa using h1.resolve_left h2
      refine Ex.cont fun h q => ⟨c, hnext c (by unfold nstep; rw [if_pos h1]), q.forget ?_⟩
      walk_at "d.fgt"
    rw [not_or] at h1
    refine Ex.ite_ff ?t ?_
    case t =>
      refine' Te.or_ff (Te.to (Te.not ?a1) ?a2) (Te.or_ff (Te.to ?a3 ?a4) Te.or_nil)
      case a1 => walk_at "d.te"
      case a2 => rw [len_tru0]; simpa using h1.1
      case a3 => walk_at "d.te"
      case a4 => rw [T_beq]; simpa using h1.2
    have hsz := sizeLine_eq
    have tl : ∀ pz, Te PG w (KK w) 2 env (Add No l) (nv r (.val (.str (T []))) (.val (.str (T [47]))) (.val (.list (sv (sp r)))) (.own l true (sv c)) (.val (.str (T p)))) (.Name "new_comps" pz) (decide (sv c ≠ [])) := by
      intro pz
      refine' Te.list (EvL.name ?m ?d) (by omega) rfl
      case m => walk_at "d.mem"
      case d => decide
    by_cases h2 : p ≠ [46, 46] ∨ c.getLast? = some [46, 46]
    · refine Ex.ite_tt ?t ?_
      case t =>
        by_cases h3 : p = [46, 46]
        · have hgl : c.getLast? = some [46, 46] := h2.resolve_left (fun q => q h3)
          obtain ⟨ini, rfl⟩ : ∃ ini, c = ini ++ [[46, 46]] := by
            rcases List.eq_nil_or_concat c with e | ⟨i, y, e⟩
            · subst e; simp at hgl
            · rw [List.concat_eq_append] at e; subst e; simp at hgl; subst hgl; exact ⟨i, rfl⟩
          refine' Te.or_ff (Te.to ?a1 ?a2) (Te.or_ff ?zb (Te.or_tt (Te.and_tt (Te.to (tl _) ?c1) (Te.and_tt (Te.to (Te.cmp (Ev.itemLneg (a := .str (T [46, 46])) (i := -1) (xs := sv (ini ++ [[46, 46]])) (EvL.name (l := l) (pp := true) ?d1 ?d2) ?d3 (by decide) ?d5 ?d6 ?d7 ?d8) ?d9 op_eq_str ?d10) ?d11) Te.and_nil))))
          case a1 => walk_at "d.te"
          case a2 => rw [bne, T_beq]; simpa using h3
          case zb =>
            refine' Te.and_ff (Te.to (Te.not ?b1) ?b2)
            case b1 => walk_at "d.te"
            case b2 => rw [len_tru0]; simp
          case c1 => simp
          case d1 => walk_at "d.mem"
          case d2 => decide
          case d3 => walk_at "d.ev"
          case d5 => simp; omega
          case d6 => exact sv_last _ _
          case d7 => omega
          case d8 => intro _ _; with_unfolding_all rfl
          case d9 => walk_at "d.ev"
          case d10 => with_unfolding_all rfl
          case d11 => simp
        · refine' Te.or_tt (Te.to ?a1 ?a2)
          case a1 => walk_at "d.te"
          case a2 => rw [bne, T_beq]; simpa using h3
      refine' Ex.append (l := l) (xs := sv c) (a := .str (T p)) ?m ?e (by omega) ?u2 ?zrest ?mt rfl (by decide) rfl (interactive_of hk)
      case m => walk_at "d.mem"
      case e => walk_at "d.ev"
      case u2 => walk_at "d.upd"
      case mt => walk_at "d.meth"
      case zrest =>
        rw [show sv c ++ [AV.str (T p)] = sv (c ++ [p]) by simp]
        refine Ex.nil fun h q => ⟨c ++ [p], hnext _ (by unfold nstep; rw [if_neg (not_or.mpr h1), if_pos h2]), q.forget ?_⟩
        walk_at "d.fgt"
    rw [not_or, Classical.not_not] at h2
    obtain ⟨rfl, h3⟩ := h2
    refine Ex.ite_ff ?t ?_
    case t =>
      refine' Te.or_ff (Te.to ?a1 ?a2) (Te.or_ff ?zb (Te.or_ff ?zc Te.or_nil))
      case a1 => walk_at "d.te"
      case a2 => rw [bne, T_beq]; simp
      case zb =>
        refine' Te.and_ff (Te.to (Te.not ?b1) ?b2)
        case b1 => walk_at "d.te"
        case b2 => rw [len_tru0]; simp
      case zc =>
        rcases List.eq_nil_or_concat c with e | ⟨ini, y, e⟩
        · subst e
          exact Te.and_ff (Te.to (tl _) (by simp))
        · rw [List.concat_eq_append] at e; subst e
          refine' Te.and_tt (Te.to (tl _) ?c1) (Te.and_ff (Te.to (Te.cmp (Ev.itemLneg (a := .str (T y)) (i := -1) (xs := sv (ini ++ [y])) (EvL.name (l := l) (pp := true) ?d1 ?d2) ?d3 (by decide) ?d5 ?d6 ?d7 ?d8) ?d9 op_eq_str ?d10) ?d11))
          case c1 => simp
          case d1 => walk_at "d.mem"
          case d2 => decide
          case d3 => walk_at "d.ev"
          case d5 => simp; omega
          case d6 => exact sv_last _ _
          case d7 => omega
          case d8 => intro _ _; with_unfolding_all rfl
          case d9 => walk_at "d.ev"
          case d10 => with_unfolding_all rfl
          case d11 => rw [T_beq]; simpa using h3
    rcases List.eq_nil_or_concat c with e | ⟨ini, y, e⟩
    · subst e
      refine Ex.ite_ff (Te.to (tl _) (by simp)) ?_
      refine Ex.nil fun h q => ⟨[], hnext _ (by unfold nstep; rw [if_neg (not_or.mpr h1), if_neg (by simp)]; rfl), q.forget ?_⟩
      walk_at "d.fgt"
    · rw [List.concat_eq_append] at e; subst e
      refine Ex.ite_tt (Te.to (tl _) (by simp)) ?_
      refine' Ex.pop (l := l) (xs := sv ini) (a := .str (T y)) ?m (by simp at hcl ⊢; omega) ?u2 ?zrest ?mt (by decide) rfl (interactive_of hk)
      case m => rw [show sv ini ++ [AV.str (T y)] = sv (ini ++ [y]) by simp]; walk_at "d.mem"
      case u2 => walk_at "d.upd"
      case mt => walk_at "d.meth"
      case zrest =>
        refine Ex.nil fun h q => ⟨ini, hnext _ (by unfold nstep; rw [if_neg (not_or.mpr h1), if_neg (by simpa using h3)]; simp), q.forget ?_⟩
        walk_at "d.fgt"
end Mine

end T_PNb

section T_DN
open PySem PySem.W PyProof.Rows PySem.Calls PySem.Spec
open PySem.SeqAt
set_option linter.unusedVariables false
set_option linter.unusedSimpArgs false
namespace Mine

/-! ## two lists of texts compared -/
theorem strs_get {h : Heap} {ex : Addr → Prop} {us : List Value} {xs : List Str} (q : Vals h ex us (xs.map .str)) {j : Nat} (h1 : j < us.toArray.size) : ∃ x t, xs[j]? = some x ∧ us.toArray[j] = .str x t := by
  have h1' : j < us.length := by simpa using h1
  obtain ⟨a, ha, qa⟩ := q.get' (i := j) (v := us[j]) (by simp [h1'])
  simp only [List.getElem?_map, Option.map_eq_some_iff] at ha
  obtain ⟨x, hx, rfl⟩ := ha
  have e : us.toArray[j] = us[j] := by simp
  rw [e]
  generalize us[j] = v at qa
  cases qa with
  | str _ t => exact ⟨x, t, hx, rfl⟩
theorem strs_len {h : Heap} {ex : Addr → Prop} {us : List Value} {xs : List Str} (q : Vals h ex us (xs.map .str)) : us.toArray.size = xs.length := by
  have := q.length; simpa using this
section
variable {A : Around} {s : Shared} {ex ex' : Addr → Prop} {l b : Addr} {us vs : List Value} {xs ys : List Str}
/-- the order of lists of texts -/
def sLt : List Str → List Str → Bool
  | [], [] => false
  | [], _ :: _ => true
  | _ :: _, [] => false
  | x :: xs, y :: ys => if x = y then sLt xs ys else decide (x.cps.toList < y.cps.toList)
end

def RcOpAt (op : CmpOp) (A : Around) (s : Shared) (y x : Value) (b : Bool) : Prop :=
  ∀ (prog : Program) (w : World) (E : Value → Shared → Prop) (Q : Value → Shared → Prop), Q (.bool b) s → wpAny (model prog w) A (richCompare op y x) Q E s
theorem RcOpAt.str_lt (A : Around) (s : Shared) (a : Str) (t : Tok) (b : Str) (u : Tok) : RcOpAt .Lt A s (.str a t) (.str b u) (decide (a.cps.toList < b.cps.toList)) := fun prog w E Q h =>
  richCompare_gives (typeIs_str s a t) (typeIs_str s b u) F.slot_str_lt F.entry_str_lt (F.args_str_lt_2 _ _) (gives_str_lt a b t u) (by simp [Made.takes]) h
theorem RcOpAt.str_gt (A : Around) (s : Shared) (a : Str) (t : Tok) (b : Str) (u : Tok) : RcOpAt .Gt A s (.str a t) (.str b u) (decide (b.cps.toList < a.cps.toList)) := fun prog w E Q h =>
  richCompare_gives (typeIs_str s a t) (typeIs_str s b u) F.slot_str_gt F.entry_str_gt (F.args_str_gt_2 _ _) (gives_str_gt a b t u) (by simp [Made.takes]) h

open MeetsSeq MeetsSeq2 MeetsSeq3
open AutoSeq1 (wpAny_loadPart')
theorem sLt_step {xs ys : List Str} {i : Nat} {x y : Str} (hx : xs[i]? = some x) (hy : ys[i]? = some y) : sLt (xs.drop i) (ys.drop i) = if x = y then sLt (xs.drop (i + 1)) (ys.drop (i + 1)) else decide (x.cps.toList < y.cps.toList) := by
  obtain ⟨h1, rfl⟩ := List.getElem?_eq_some_iff.mp hx
  obtain ⟨h2, rfl⟩ := List.getElem?_eq_some_iff.mp hy
  rw [List.drop_eq_getElem_cons h1, List.drop_eq_getElem_cons h2]
  rfl
theorem sLt_end {xs ys : List Str} {i : Nat} (h : xs[i]? = none ∨ ys[i]? = none) (hx : i ≤ xs.length) (hy : i ≤ ys.length) : sLt (xs.drop i) (ys.drop i) = decide (xs.length < ys.length) := by
  simp only [List.getElem?_eq_none_iff] at h
  rcases Nat.lt_or_ge i xs.length with h1 | h1
  · have h2 : ys.length ≤ i := by omega
    rw [List.drop_eq_getElem_cons h1, List.drop_of_length_le h2]
    rw [decide_eq_false (by omega)]; rfl
  · rw [List.drop_of_length_le h1]
    rcases Nat.lt_or_ge i ys.length with h2 | h2
    · rw [List.drop_eq_getElem_cons h2, decide_eq_true (by omega)]; rfl
    · rw [List.drop_of_length_le h2, decide_eq_false (by omega)]; rfl
theorem lt_loopAt (l b : Addr) (us vs : List Value) (xs ys : List Str) (n n2 : Nat) (dd dd2 : Option Addr) (sl sl2 : Array (Option Value)) (k : Nat) :
    ∀ i : Nat, xs.length - i = k → i ≤ xs.length → i ≤ ys.length → Meets (Builtin.«list.__eq__.loop» ⟨[.ref l, .ref b, rawInt i, rawInt 0], []⟩)
      (fun A R s => s.heap.get? l = some { cls := .type "list", dict := dd, data := .seq us.toArray n, slots := sl } ∧ s.heap.get? b = some { cls := .type "list", dict := dd2, data := .seq vs.toArray n2, slots := sl2 } ∧
        (∃ h ex, Vals h ex us (xs.map .str)) ∧ (∃ h ex, Vals h ex vs (ys.map .str)) ∧
        R (.ok (.ret (.bool (sLt (xs.drop i) (ys.drop i))))) s) := by
  induction k with
  | zero =>
    intro i hk hix hiy prog w A R s h
    obtain ⟨hp, g, d, tk, os⟩ := s; obtain ⟨hl, hb, ⟨h1, ex1, q⟩, ⟨h2, ex2, q'⟩, h⟩ := h
    have n1 := strs_len q
    have n2 := strs_len q'
    wp_walk using wpAny_loadPart' hl, wpAny_loadPart' hb
    have hi1 : us.toArray[((i : Nat) : Int).toNat]? = none := by simp at n1 ⊢; omega
    rw [sLt_end (.inl (by simp; omega)) hix hiy] at h
    rw [hi1]
    wp_walk using wpAny_loadPart' hl, wpAny_loadPart' hb
    show R (.ok (.ret (.bool (decide (us.toArray.size < vs.toArray.size))))) _
    rw [n1, n2]
    exact h
  | succ k ih =>
    intro i hk hix hiy prog w A R s h
    obtain ⟨hp, g, d, tk, os⟩ := s; obtain ⟨hl, hb, ⟨h1, ex1, q⟩, ⟨h2, ex2, q'⟩, h⟩ := h
    have n1 := strs_len q
    have n2 := strs_len q'
    have hlt : i < us.toArray.size := by omega
    obtain ⟨x, t, hx, e1⟩ := strs_get q hlt
    wp_walk using wpAny_loadPart' hl, wpAny_loadPart' hb
    have hi1 : us.toArray[((i : Nat) : Int).toNat]? = some (.str x t) := by rw [Int.toNat_natCast, Array.getElem?_eq_getElem hlt, e1]
    by_cases hy2 : i < vs.toArray.size
    · obtain ⟨y, u, hy, e2⟩ := strs_get q' hy2
      have hi2 : vs.toArray[((i : Nat) : Int).toNat]? = some (.str y u) := by rw [Int.toNat_natCast, Array.getElem?_eq_getElem hy2, e2]
      have hc : ((i : Int) + 1) = ((i + 1 : Nat) : Int) := by push_cast; rfl
      rw [sLt_step hx hy] at h
      rw [hi1, hi2]
      refine wpAny_bind (EqAt.str_str (A := A.in1) x t y u prog w _ _ ?_)
      by_cases hxy : x = y
      · rw [if_pos hxy] at h
        rw [show (x == y) = true by simpa using hxy]
        wp_walk
        rw [hc]
        exact ⟨plainId_quiet plain_eq_loop _, codeAny_builtin entry_eq_loop (by
          rw [Around.under_plainId plain_eq_loop _]
          exact ih (i + 1) (by omega) (by omega) (by omega) prog w A R _ ⟨hl, hb, ⟨h1, ex1, q⟩, ⟨h2, ex2, q'⟩, h⟩)⟩
      · rw [if_neg hxy] at h
        rw [show (x == y) = false by simpa using hxy]
        wp_walk using wpAny_loadPart' hl, wpAny_loadPart' hb
        rw [hi1, hi2]
        refine wpAny_bind (RcOpAt.str_lt A.in1 _ x t y u prog w _ _ ?_)
        exact wpAny_pure h
    · have hi2 : vs.toArray[((i : Nat) : Int).toNat]? = none := by simp at hy2 ⊢; omega
      rw [sLt_end (.inr (by simp; omega)) hix hiy] at h
      rw [hi1, hi2]
      wp_walk using wpAny_loadPart' hl, wpAny_loadPart' hb
      show R (.ok (.ret (.bool (decide (us.toArray.size < vs.toArray.size))))) _
      rw [n1, n2]
      exact h
end Mine

end T_DN

section T_DO
open PySem PySem.W PyProof.Rows PySem.Calls PySem.Spec
open PySem.SeqAt
set_option linter.unusedVariables false
set_option linter.unusedSimpArgs false
namespace Mine
open MeetsSeq MeetsSeq2 MeetsSeq3
open AutoSeq1 (wpAny_loadPart')
theorem gt_loopAt (l b : Addr) (us vs : List Value) (xs ys : List Str) (n n2 : Nat) (dd dd2 : Option Addr) (sl sl2 : Array (Option Value)) (k : Nat) :
    ∀ i : Nat, xs.length - i = k → i ≤ xs.length → i ≤ ys.length → Meets (Builtin.«list.__eq__.loop» ⟨[.ref l, .ref b, rawInt i, rawInt 4], []⟩)
      (fun A R s => s.heap.get? l = some { cls := .type "list", dict := dd, data := .seq us.toArray n, slots := sl } ∧ s.heap.get? b = some { cls := .type "list", dict := dd2, data := .seq vs.toArray n2, slots := sl2 } ∧
        (∃ h ex, Vals h ex us (xs.map .str)) ∧ (∃ h ex, Vals h ex vs (ys.map .str)) ∧
        R (.ok (.ret (.bool (sLt (ys.drop i) (xs.drop i))))) s) := by
  induction k with
  | zero =>
    intro i hk hix hiy prog w A R s h
    obtain ⟨hp, g, d, tk, os⟩ := s; obtain ⟨hl, hb, ⟨h1, ex1, q⟩, ⟨h2, ex2, q'⟩, h⟩ := h
    have n1 := strs_len q
    have n2 := strs_len q'
    wp_walk using wpAny_loadPart' hl, wpAny_loadPart' hb
    have hi1 : us.toArray[((i : Nat) : Int).toNat]? = none := by simp at n1 ⊢; omega
    rw [sLt_end (.inr (by simp; omega)) hiy hix] at h
    rw [hi1]
    wp_walk using wpAny_loadPart' hl, wpAny_loadPart' hb
    show R (.ok (.ret (.bool (decide (us.toArray.size > vs.toArray.size))))) _
    rw [n1, n2]
    exact h
  | succ k ih =>
    intro i hk hix hiy prog w A R s h
    obtain ⟨hp, g, d, tk, os⟩ := s; obtain ⟨hl, hb, ⟨h1, ex1, q⟩, ⟨h2, ex2, q'⟩, h⟩ := h
    have n1 := strs_len q
    have n2 := strs_len q'
    have hlt : i < us.toArray.size := by omega
    obtain ⟨x, t, hx, e1⟩ := strs_get q hlt
    wp_walk using wpAny_loadPart' hl, wpAny_loadPart' hb
    have hi1 : us.toArray[((i : Nat) : Int).toNat]? = some (.str x t) := by rw [Int.toNat_natCast, Array.getElem?_eq_getElem hlt, e1]
    by_cases hy2 : i < vs.toArray.size
    · obtain ⟨y, u, hy, e2⟩ := strs_get q' hy2
      have hi2 : vs.toArray[((i : Nat) : Int).toNat]? = some (.str y u) := by rw [Int.toNat_natCast, Array.getElem?_eq_getElem hy2, e2]
      have hc : ((i : Int) + 1) = ((i + 1 : Nat) : Int) := by push_cast; rfl
      rw [sLt_step hy hx] at h
      rw [hi1, hi2]
      refine wpAny_bind (EqAt.str_str (A := A.in1) x t y u prog w _ _ ?_)
      by_cases hxy : x = y
      · rw [if_pos hxy.symm] at h
        rw [show (x == y) = true by simpa using hxy]
        wp_walk
        rw [hc]
        exact ⟨plainId_quiet plain_eq_loop _, codeAny_builtin entry_eq_loop (by
          rw [Around.under_plainId plain_eq_loop _]
          exact ih (i + 1) (by omega) (by omega) (by omega) prog w A R _ ⟨hl, hb, ⟨h1, ex1, q⟩, ⟨h2, ex2, q'⟩, h⟩)⟩
      · rw [if_neg (Ne.symm hxy)] at h
        rw [show (x == y) = false by simpa using hxy]
        wp_walk using wpAny_loadPart' hl, wpAny_loadPart' hb
        rw [hi1, hi2]
        refine wpAny_bind (RcOpAt.str_gt A.in1 _ x t y u prog w _ _ ?_)
        exact wpAny_pure h
    · have hi2 : vs.toArray[((i : Nat) : Int).toNat]? = none := by simp at hy2 ⊢; omega
      rw [sLt_end (.inl (by simp; omega)) hiy hix] at h
      rw [hi1, hi2]
      wp_walk using wpAny_loadPart' hl, wpAny_loadPart' hb
      show R (.ok (.ret (.bool (decide (us.toArray.size > vs.toArray.size))))) _
      rw [n1, n2]
      exact h
theorem list_ltAt (l b : Addr) (us vs : List Value) (xs ys : List Str) (n n2 : Nat) (dd dd2 : Option Addr) (sl sl2 : Array (Option Value)) :
    Meets (Builtin.«list.__lt__» ⟨[.ref l, .ref b], []⟩)
      (fun A R s => s.heap.get? l = some { cls := .type "list", dict := dd, data := .seq us.toArray n, slots := sl } ∧ s.heap.get? b = some { cls := .type "list", dict := dd2, data := .seq vs.toArray n2, slots := sl2 } ∧
        (∃ h ex, Vals h ex us (xs.map .str)) ∧ (∃ h ex, Vals h ex vs (ys.map .str)) ∧
        R (.ok (.ret (.bool (sLt xs ys)))) s) := by
  intro prog w A R s h
  obtain ⟨hp, g, d, tk, os⟩ := s; obtain ⟨hl, hb, q, q', h⟩ := h
  have f3 := AutoSeq1.sub_list_list
  wp_walk using wpAny_loadPart' hl, wpAny_loadPart' hb
  exact ⟨plainId_quiet plain_eq_loop _, codeAny_builtin entry_eq_loop (by
    rw [Around.under_plainId plain_eq_loop _]
    exact lt_loopAt l b us vs xs ys n n2 dd dd2 sl sl2 _ 0 rfl (Nat.zero_le _) (Nat.zero_le _) prog w A R _ ⟨hl, hb, q, q', h⟩)⟩
theorem list_gtAt (l b : Addr) (us vs : List Value) (xs ys : List Str) (n n2 : Nat) (dd dd2 : Option Addr) (sl sl2 : Array (Option Value)) :
    Meets (Builtin.«list.__gt__» ⟨[.ref l, .ref b], []⟩)
      (fun A R s => s.heap.get? l = some { cls := .type "list", dict := dd, data := .seq us.toArray n, slots := sl } ∧ s.heap.get? b = some { cls := .type "list", dict := dd2, data := .seq vs.toArray n2, slots := sl2 } ∧
        (∃ h ex, Vals h ex us (xs.map .str)) ∧ (∃ h ex, Vals h ex vs (ys.map .str)) ∧
        R (.ok (.ret (.bool (sLt ys xs)))) s) := by
  intro prog w A R s h
  obtain ⟨hp, g, d, tk, os⟩ := s; obtain ⟨hl, hb, q, q', h⟩ := h
  have f3 := AutoSeq1.sub_list_list
  wp_walk using wpAny_loadPart' hl, wpAny_loadPart' hb
  exact ⟨plainId_quiet plain_eq_loop _, codeAny_builtin entry_eq_loop (by
    rw [Around.under_plainId plain_eq_loop _]
    exact gt_loopAt l b us vs xs ys n n2 dd dd2 sl sl2 _ 0 rfl (Nat.zero_le _) (Nat.zero_le _) prog w A R _ ⟨hl, hb, q, q', h⟩)⟩
section
variable {A : Around} {s : Shared} {l b : Addr} {us vs : List Value} {xs ys : List Str}
theorem rc_lt_strs {h h' : Heap} {ex ex' : Addr → Prop} (il : s.heap.IsList l us.toArray) (q : Vals h ex us (xs.map .str)) (ib : s.heap.IsList b vs.toArray) (q' : Vals h' ex' vs (ys.map .str)) (hu : A.units < cLine) : RcOpAt .Lt A s (.ref l) (.ref b) (sLt xs ys) := fun prog w E Q h => by
  obtain ⟨⟨cls, dd, data, sl⟩, ho, hc, n, hd⟩ := id il
  obtain ⟨⟨cls2, dd2, data2, sl2⟩, ho2, hc2, n2, hd2⟩ := id ib
  simp only at hc hd hc2 hd2
  subst hc hd hc2 hd2
  exact richCompare_meets_room (op := .Lt) ⟨_, ho, rfl⟩ ⟨_, ho2, rfl⟩ F.slot_list_lt F.entry_list_lt (F.args_list_lt_2 _ _) (list_ltAt l b us vs xs ys n n2 dd dd2 sl sl2)
    ⟨ho, ho2, ⟨_, _, q⟩, ⟨_, _, q'⟩, show Value.bool (sLt xs ys) ≠ Value.notImplemented ∧ Q (.bool (sLt xs ys)) s from ⟨(fun x => nomatch x), h⟩⟩ hu
theorem rc_gt_strs {h h' : Heap} {ex ex' : Addr → Prop} (il : s.heap.IsList l us.toArray) (q : Vals h ex us (xs.map .str)) (ib : s.heap.IsList b vs.toArray) (q' : Vals h' ex' vs (ys.map .str)) (hu : A.units < cLine) : RcOpAt .Gt A s (.ref l) (.ref b) (sLt ys xs) := fun prog w E Q h => by
  obtain ⟨⟨cls, dd, data, sl⟩, ho, hc, n, hd⟩ := id il
  obtain ⟨⟨cls2, dd2, data2, sl2⟩, ho2, hc2, n2, hd2⟩ := id ib
  simp only at hc hd hc2 hd2
  subst hc hd hc2 hd2
  exact richCompare_meets_room (op := .Gt) ⟨_, ho, rfl⟩ ⟨_, ho2, rfl⟩ F.slot_list_gt F.entry_list_gt (F.args_list_gt_2 _ _) (list_gtAt l b us vs xs ys n n2 dd dd2 sl sl2)
    ⟨ho, ho2, ⟨_, _, q⟩, ⟨_, _, q'⟩, show Value.bool (sLt ys xs) ≠ Value.notImplemented ∧ Q (.bool (sLt ys xs)) s from ⟨(fun x => nomatch x), h⟩⟩ hu
end

/-! ## expressions: lists compared, cut, joined -/
section
variable {prog : Program} {w : World} {K : Frag} {n : Nat} {env : Env} {h₀ : Heap} {ex : Addr → Prop} {vs vs' : Vars} {S S' : Heap → Prop} {Q : Flow → Heap → Prop} {rest : List Stmt}
theorem EvN.add {l r : Expr} {p : Pos} {xs ys : List AV} (hl : EvL prog w K n env ex vs l xs) (hr : EvL prog w K n env ex vs r ys) (hsz : xs.length + ys.length ≤ sizeLine) : EvN prog w K n env ex vs (.BinOp l .Add r p) (xs ++ ys) := by
  intro A R s Q E S h
  refine wpAny_BinOp (hl A R s _ _ S fun u us s₁ g₁ il q₁ => hr A R s₁ _ _ (S.up g₁) fun v vs s₂ g₂ ib q₂ => ?_)
  have il₂ := IsList.goes il fun o e => g₂.ext _ o e
  obtain ⟨⟨cls, dd, data, sl⟩, ho, hc, n, hd⟩ := id il₂
  obtain ⟨⟨cls2, dd2, data2, sl2⟩, ho2, hc2, n2, hd2⟩ := id ib
  simp only at hc hd hc2 hd2
  subst hc hd hc2 hd2
  have e : us.toArray ++ vs.toArray = (us ++ vs).toArray := by simp
  have l1 := q₁.length
  have l2 := q₂.length
  refine concat_meets ⟨_, ho, rfl⟩ ⟨_, ho2, rfl⟩ noFill_list_add seq_list_add PySem.F.slot_list_add PySem.F.entry_list_add (PySem.F.args_list_add_2 _ _) (list_addW _ _ us.toArray vs.toArray n n2 dd dd2 sl sl2 (by simp; omega)) ⟨ho, ho2, ?_⟩
  rw [e]
  refine h _ (us ++ vs) _ ((g₁.trans g₂).trans (Grown.push _ _ _)) ?_ ⟨_, Heap.get?_push_size _ rfl, rfl, ⟨0, rfl⟩, fun _ => ⟨rfl, rfl⟩⟩ ?_
  · cases e : s.heap.get? s₂.heap.objs.size with
    | none => rfl
    | some o => exact absurd (Heap.lt_size ((g₁.trans g₂).ext _ _ e)) (Nat.lt_irrefl _)
  · have qq : Vals s₂.heap ex (us ++ vs) (xs ++ ys) := (q₁.up g₂.ext).append q₂
    exact qq.moves (Ext.seq push_none) fun b o hb e q => q.elim hb fun q => by rw [q, no_next] at e; cases e
/-- a list cut -/
theorem EvN.slice {v : Expr} {lo hi : Option Expr} {p p' : Pos} {xs ys : List AV} {l u : Option Int} (hv : EvL prog w K n env ex vs v xs) (hl : EvP prog w K n env ex vs lo l) (hu : EvP prog w K n env ex vs hi u) (hx : xs.length ≤ sizeLine)
    (hy : ∀ (h : Heap) (ex : Addr → Prop) (us : List Value), Vals h ex us xs → ∃ ws : List Value, slicePick us.toArray l u none = ws.toArray ∧ Vals h ex ws ys)
    (ht : ∀ o r, letTemporaryGo v o r = pure () := by intro _ _; rfl) :
    EvN prog w K n env ex vs (.Subscript v (.Slice lo hi none p') p) ys := by
  intro A R s Q E S h
  refine wpAny_Subscript_list_slice (hv A R s _ _ S fun o us s₁ g₁ il q₁ => hl A R s₁ _ _ (S.up g₁) fun vl s₂ g₂ q₂ => hu A R s₂ _ _ ((S.up g₁).up g₂) fun vu s₃ g₃ q₃ => ?_) ht
  have g23 := g₂.trans g₃
  have hlen := q₁.length
  refine ⟨o, us.toArray, l, u, rfl, IsList.goes il fun o e => g23.ext _ o e, by simp; omega, q₂, q₃, ?_⟩
  obtain ⟨ws, e, qw⟩ := hy s₃.heap ex us (q₁.up g23.ext)
  rw [e]
  have hsz : (s₃.heap.push { cls := .type "slice", data := .fields #[vl, vu, .none] }).objs.size = s₃.heap.objs.size + 1 := Heap.size_push ..
  have g : Grown s { s₃ with heap := (s₃.heap.push { cls := .type "slice", data := .fields #[vl, vu, .none] }).push { cls := .type "list", data := .seq ws.toArray } } :=
    ((g₁.trans g₂).trans g₃).trans ⟨⟨_, _, rfl⟩, fun b o e => push_none _ _ (push_none _ _ e)⟩
  have hnone : ∀ {h : Heap}, Ext h s₃.heap → h.get? (s₃.heap.objs.size + 1) = none := fun k => by
    cases e : Heap.get? _ (s₃.heap.objs.size + 1) with
    | none => rfl
    | some o => exact absurd (Heap.lt_size (k _ _ e)) (Nat.not_lt.mpr (Nat.le_succ _))
  refine h (s₃.heap.objs.size + 1) ws _ g (hnone ((g₁.trans g₂).trans g₃).ext) ⟨_, by rw [← hsz]; exact Heap.get?_push_size _ rfl, rfl, ⟨0, rfl⟩, fun _ => ⟨rfl, rfl⟩⟩ ?_
  exact qw.moves (Ext.seq fun b o e => push_none _ _ (push_none _ _ e)) fun b o hb e q => q.elim hb fun q => by rw [q, hnone fun _ _ e => e] at e; cases e
theorem pick_upto {xs : List AV} (k : Nat) : ∀ (h : Heap) (ex : Addr → Prop) (us : List Value), Vals h ex us xs → ∃ ws : List Value, slicePick us.toArray none (some (k : Int)) none = ws.toArray ∧ Vals h ex ws (xs.take k) :=
  fun h ex us q => ⟨us.take k, slicePick_upto' _ _, q.take k⟩
theorem pick_butLast {xs : List AV} (k : Nat) (hk : 1 ≤ k) : ∀ (h : Heap) (ex : Addr → Prop) (us : List Value), Vals h ex us xs → ∃ ws : List Value, slicePick us.toArray none (some (-(k : Int))) none = ws.toArray ∧ Vals h ex ws (xs.take (xs.length - k)) :=
  fun h ex us q => ⟨us.take (us.length - k), by rw [slicePick_butLast _ _ hk]; simp, by rw [q.length]; exact q.take _⟩
end
end Mine

end T_DO

section T_DP
open PySem PySem.W PyProof.Rows PySem.Calls PySem.Spec
open PySem.SeqAt
set_option linter.unusedVariables false
set_option linter.unusedSimpArgs false
set_option maxRecDepth 100000
namespace Mine

theorem call_min_pair {prog : Program} {w : World} {A : Around} {E : Value → Shared → Prop} {s : Shared} {Q : Value → Shared → Prop} {l a b : Addr} {us vs : List Value} {xs ys : List Str} {h1 h2 : Heap} {ex1 ex2 : Addr → Prop} (hh : A.handled = none) (hu : A.units + 10 < cLine)
    (il : s.heap.IsList l #[.ref a, .ref b]) (ia : s.heap.IsList a us.toArray) (qa : Vals h1 ex1 us (xs.map .str)) (ib : s.heap.IsList b vs.toArray) (qb : Vals h2 ex2 vs (ys.map .str))
    (hQ : ∀ h' tk, Ext s.heap h' → Q (.ref (if sLt ys xs then b else a)) { s with heap := h', toks := tk }) : wpAny (model prog w) A (call (.builtin "min") [.ref l]) Q E s := by
  have hname : (toString "min" ++ toString ".loop" : String) = "min.loop" := by decide
  refine call_function_tree F.kind_min F.plain_min F.entry_min (F.args_min1 _) ?_
  show wpAny _ A.in1 (Builtin.Builtins.bindParams "min" ["key", "default"] 0 ⟨[], []⟩ >>= _) _ _ s
  refine wpAny_bind (wpAny_of_eq (show Builtin.Builtins.bindParams "min" ["key", "default"] 0 ⟨[], []⟩ = pure [none, none] from rfl) ?_)
  refine wpAny_bind (wpAny_pure ?_)
  refine wpAny_bind (wpAny_pyIter_list il ?_)
  obtain ⟨ol, hol, hcl, nl, hdl⟩ := id il
  have W := Walks.list (prog := prog) (w := w) (A := A.in1) hh s.heap.objs.size l (Nat.ne_of_lt (Heap.lt_size hol)) #[.ref a, .ref b]
  have k₁ : Ext s.heap (s.heap.push { cls := .type "list_iterator", data := .fields #[.ref l, .int 0 0] }) := push_none
  have hI := Heap.get?_push_size s.heap (o := { cls := .type "list_iterator", data := .fields #[.ref l, .int 0 0] }) rfl
  have hI0 : s.heap.get? s.heap.objs.size = none := no_next _
  generalize s.heap.push { cls := .type "list_iterator", data := .fields #[.ref l, .int 0 0] } = g₁ at k₁ hI ⊢
  generalize s.heap.objs.size = I at W hI hI0 ⊢
  have st0 : _ := W.frame 0 g₁ g₁ ⟨⟨_, hI, rfl, rfl⟩, IsList.goes il fun o e => k₁ _ o e⟩ fun _ _ _ e => e
  refine wpAny_bind (wpAny_newObj_type ?_)
  have k₂ : Ext g₁ (g₁.push { cls := .type "list", data := .seq ([] : List Value).toArray }) := push_none
  have hS := Heap.get?_push_size g₁ (o := { cls := .type "list", data := .seq ([] : List Value).toArray }) rfl
  have hS0 : g₁.get? g₁.objs.size = none := no_next _
  have hSf : g₁.objs.size ∉ [I, l] := fun hm => by
    rcases List.mem_cons.mp hm with e | hm
    · rw [← e, hS0] at hI; cases hI
    · have := k₁ _ _ hol; rw [← List.mem_singleton.mp hm, hS0] at this; cases this
  have hSI : g₁.objs.size ≠ I := fun e => hSf (e ▸ List.mem_cons_self)
  have st1 := W.frame 0 _ _ st0 fun b _ o e => k₂ b o e
  dsimp only at st1 ⊢
  generalize g₁.push { cls := .type "list", data := .seq ([] : List Value).toArray } = g₂ at k₂ hS st1 ⊢
  generalize g₁.objs.size = S at hS hS0 hSf hSI ⊢
  have oth : ∀ {h : Heap}, (∀ b o, b ∉ [I] → b ≠ S → g₂.get? b = some o → h.get? b = some o) → Ext s.heap h := fun k b o e => k b o (fun hm => by rw [List.mem_singleton.mp hm, hI0] at e; cases e) (fun hb => by have := k₁ b o e; rw [hb, hS0] at this; cases this) (k₂ b o (k₁ b o e))
  rw [hname]
  refine wpAny_pure ⟨plainId_quiet F.plain_min_loop _, codeAny_builtin F.entry_min_loop ?_⟩
  rw [Around.under_plainId F.plain_min_loop _]
  show wpAny _ A.in1 (seqItems? (.ref S) >>= _) _ _ _
  refine wpAny_bind (wpAny_seqItems hS rfl ?_)
  show wpAny _ A.in1 (tryCatch (pyNext (.ref I)) _ >>= _) _ _ _
  refine wpAny_bind (wpAny_tryCatch (W.item 0 _ _ _ (show 0 < 2 by decide) st1 fun v h' tk hP hst' hk' => ?_))
  have hS' := hk' S _ (fun hm => hSI (List.mem_singleton.mp hm)) hS
  show wpAny _ A.in1 (updateSeq S (fun _ => #[v, v]) >>= _) _ _ _
  refine wpAny_bind ?_
  refine wpAny_updateSeq hS' rfl ?_
  rw [hname]
  have hv : v = .ref a := by simpa using hP.symm
  subst hv
  have hS2 := Heap.get?_update_self (Obj.mapSeq fun _ => #[Value.ref a, Value.ref a]) hS' rfl
  have u2 : ∀ b o, b ≠ S → h'.get? b = some o → (h'.update S (Obj.mapSeq fun _ => #[Value.ref a, Value.ref a])).get? b = some o := fun b o hb e => (Heap.get?_update_other _ _ (Ne.symm hb)).trans e
  have st2 := W.frame 1 _ (h'.update S (Obj.mapSeq fun _ => #[Value.ref a, Value.ref a])) hst' fun b hb o e => u2 b o (fun hh => hSf (hh ▸ hb)) e
  have oth2 : ∀ {h : Heap}, (∀ b o, b ∉ [I] → b ≠ S → (h'.update S (Obj.mapSeq fun _ => #[Value.ref a, Value.ref a])).get? b = some o → h.get? b = some o) → Ext s.heap h := fun k => oth fun b o hb hbS e => k b o hb hbS (u2 b o hbS (hk' b o hb e))
  generalize h'.update S (Obj.mapSeq fun _ => #[Value.ref a, Value.ref a]) = g₃ at hS2 st2 oth2 ⊢
  refine wpAny_pure ⟨plainId_quiet F.plain_min_loop _, codeAny_builtin F.entry_min_loop ?_⟩
  rw [Around.under_plainId F.plain_min_loop _]
  show wpAny _ A.in1 (seqItems? (.ref S) >>= _) _ _ _
  refine wpAny_bind (wpAny_seqItems hS2 rfl ?_)
  show wpAny _ A.in1 (tryCatch (pyNext (.ref I)) _ >>= _) _ _ _
  refine wpAny_bind (wpAny_tryCatch (W.item 1 _ _ _ (show 1 < 2 by decide) st2 fun v h'' tk' hP hst'' hk'' => ?_))
  have hv : v = .ref b := by simpa using hP.symm
  subst hv
  have hS3 := hk'' S _ (fun hm => hSI (List.mem_singleton.mp hm)) hS2
  have kk : Ext s.heap h'' := oth2 fun b o hb _ e => hk'' b o hb e
  show wpAny _ A.in1 (tryCatch (holding [.ref b, .ref b] (richCompare .Lt (.ref b) (.ref a) >>= _)) _ >>= _) _ _ _
  have hcmp := rc_lt_strs (A := A.in1) (s := { s with heap := h'', toks := tk' }) (IsList.goes ib fun o e => kk _ o e) qb (IsList.goes ia fun o e => kk _ o e) qa (show A.units + 1 < cLine by omega)
  refine wpAny_bind (wpAny_tryCatch (wpAny_holding (wpAny_bind (hcmp _ _ _ _ ?_))))
  refine wpAny_bind (wpAny_holding (wpAny_truthy_bool ?_))
  refine wpAny_bind (wpAny_letGo (wpAny_pure ?_))
  have oth3 : ∀ {h : Heap}, (∀ b o, b ∉ [I] → b ≠ S → h''.get? b = some o → h.get? b = some o) → Ext s.heap h := fun k => oth2 fun b o hb hbS e => k b o hb hbS (hk'' b o hb e)
  have fin : ∀ (best : Addr) (s₄ : Shared) (c : Nat), (∃ g tk, s₄ = { s with heap := g, toks := tk }) → (∀ {h : Heap}, (∀ b o, b ∉ [I] → b ≠ S → s₄.heap.get? b = some o → h.get? b = some o) → Ext s.heap h) → s₄.heap.get? S = some { cls := .type "list", dict := none, data := .seq #[.ref best, .ref best] c, slots := #[] } → (s₄.heap.IsListIter I l 2 ∧ s₄.heap.IsList l #[.ref a, .ref b]) → (best = if sLt ys xs then b else a) →
      codeAny (model prog w) A (.builtin "min.loop" ⟨[.ref I, .none, .ref S], []⟩) (fun r s' => match r with | .ok (.ret v) => Q v s' | .ok _ => False | .error e => E e s') s₄ := by
    intro best s₄ c hs₄ oth4 hS4 st4 hb
    obtain ⟨g, tk, rfl⟩ := hs₄
    refine codeAny_builtin F.entry_min_loop ?_
    rw [Around.under_plainId F.plain_min_loop _]
    show wpAny _ A.in1 (seqItems? (.ref S) >>= _) _ _ _
    refine wpAny_bind (wpAny_seqItems hS4 rfl ?_)
    show wpAny _ A.in1 (tryCatch (pyNext (.ref I)) _ >>= _) _ _ _
    refine wpAny_bind (wpAny_tryCatch (W.done _ _ _ st4 fun h5 tk5 hk5 => ?_))
    have hS5 := hk5 S _ (fun hm => hSI (List.mem_singleton.mp hm)) hS4
    show wpAny _ A.in1 (updateSeq S (fun _ => #[]) >>= _) _ _ _
    refine wpAny_bind ?_
    refine wpAny_updateSeq hS5 rfl (wpAny_bind (wpAny_letGo (wpAny_pure ?_)))
    rw [hb]
    exact hQ _ tk5 (oth4 fun b o hb hbS e => (Heap.get?_update_other _ _ (Ne.symm hbS)).trans (hk5 b o hb e))
  cases hb : sLt ys xs with
  | true =>
    simp only [if_true]
    refine wpAny_bind ?_
    refine wpAny_updateSeq hS3 rfl (wpAny_bind (wpAny_letGo ?_))
    rw [hname]
    have u3 : ∀ x o, x ≠ S → h''.get? x = some o → (h''.update S (Obj.mapSeq fun _ => #[Value.ref b, Value.ref b])).get? x = some o := fun x o hb e => (Heap.get?_update_other _ _ (Ne.symm hb)).trans e
    refine wpAny_pure ⟨plainId_quiet F.plain_min_loop _, fin b _ _ ⟨_, _, rfl⟩ (fun k => oth3 fun b o hb hbS e => k b o hb hbS (u3 b o hbS e)) (Heap.get?_update_self _ hS3 rfl) (W.frame 2 _ _ hst'' fun b hb o e => u3 b o (fun hh => hSf (hh ▸ hb)) e) (by simp [hb])⟩
  | false =>
    simp only [Bool.false_eq_true, if_false]
    refine wpAny_bind (wpAny_letGo ?_)
    rw [hname]
    exact wpAny_pure ⟨plainId_quiet F.plain_min_loop _, fin a _ _ ⟨_, _, rfl⟩ oth3 hS3 hst'' (by simp [hb])⟩

theorem call_max_pair {prog : Program} {w : World} {A : Around} {E : Value → Shared → Prop} {s : Shared} {Q : Value → Shared → Prop} {l a b : Addr} {us vs : List Value} {xs ys : List Str} {h1 h2 : Heap} {ex1 ex2 : Addr → Prop} (hh : A.handled = none) (hu : A.units + 10 < cLine)
    (il : s.heap.IsList l #[.ref a, .ref b]) (ia : s.heap.IsList a us.toArray) (qa : Vals h1 ex1 us (xs.map .str)) (ib : s.heap.IsList b vs.toArray) (qb : Vals h2 ex2 vs (ys.map .str))
    (hQ : ∀ h' tk, Ext s.heap h' → Q (.ref (if sLt xs ys then b else a)) { s with heap := h', toks := tk }) : wpAny (model prog w) A (call (.builtin "max") [.ref l]) Q E s := by
  have hname : (toString "max" ++ toString ".loop" : String) = "max.loop" := by decide
  refine call_function_tree F.kind_max F.plain_max F.entry_max (F.args_max1 _) ?_
  show wpAny _ A.in1 (Builtin.Builtins.bindParams "max" ["key", "default"] 0 ⟨[], []⟩ >>= _) _ _ s
  refine wpAny_bind (wpAny_of_eq (show Builtin.Builtins.bindParams "max" ["key", "default"] 0 ⟨[], []⟩ = pure [none, none] from rfl) ?_)
  refine wpAny_bind (wpAny_pure ?_)
  refine wpAny_bind (wpAny_pyIter_list il ?_)
  obtain ⟨ol, hol, hcl, nl, hdl⟩ := id il
  have W := Walks.list (prog := prog) (w := w) (A := A.in1) hh s.heap.objs.size l (Nat.ne_of_lt (Heap.lt_size hol)) #[.ref a, .ref b]
  have k₁ : Ext s.heap (s.heap.push { cls := .type "list_iterator", data := .fields #[.ref l, .int 0 0] }) := push_none
  have hI := Heap.get?_push_size s.heap (o := { cls := .type "list_iterator", data := .fields #[.ref l, .int 0 0] }) rfl
  have hI0 : s.heap.get? s.heap.objs.size = none := no_next _
  generalize s.heap.push { cls := .type "list_iterator", data := .fields #[.ref l, .int 0 0] } = g₁ at k₁ hI ⊢
  generalize s.heap.objs.size = I at W hI hI0 ⊢
  have st0 : _ := W.frame 0 g₁ g₁ ⟨⟨_, hI, rfl, rfl⟩, IsList.goes il fun o e => k₁ _ o e⟩ fun _ _ _ e => e
  refine wpAny_bind (wpAny_newObj_type ?_)
  have k₂ : Ext g₁ (g₁.push { cls := .type "list", data := .seq ([] : List Value).toArray }) := push_none
  have hS := Heap.get?_push_size g₁ (o := { cls := .type "list", data := .seq ([] : List Value).toArray }) rfl
  have hS0 : g₁.get? g₁.objs.size = none := no_next _
  have hSf : g₁.objs.size ∉ [I, l] := fun hm => by
    rcases List.mem_cons.mp hm with e | hm
    · rw [← e, hS0] at hI; cases hI
    · have := k₁ _ _ hol; rw [← List.mem_singleton.mp hm, hS0] at this; cases this
  have hSI : g₁.objs.size ≠ I := fun e => hSf (e ▸ List.mem_cons_self)
  have st1 := W.frame 0 _ _ st0 fun b _ o e => k₂ b o e
  dsimp only at st1 ⊢
  generalize g₁.push { cls := .type "list", data := .seq ([] : List Value).toArray } = g₂ at k₂ hS st1 ⊢
  generalize g₁.objs.size = S at hS hS0 hSf hSI ⊢
  have oth : ∀ {h : Heap}, (∀ b o, b ∉ [I] → b ≠ S → g₂.get? b = some o → h.get? b = some o) → Ext s.heap h := fun k b o e => k b o (fun hm => by rw [List.mem_singleton.mp hm, hI0] at e; cases e) (fun hb => by have := k₁ b o e; rw [hb, hS0] at this; cases this) (k₂ b o (k₁ b o e))
  rw [hname]
  refine wpAny_pure ⟨plainId_quiet F.plain_max_loop _, codeAny_builtin F.entry_max_loop ?_⟩
  rw [Around.under_plainId F.plain_max_loop _]
  show wpAny _ A.in1 (seqItems? (.ref S) >>= _) _ _ _
  refine wpAny_bind (wpAny_seqItems hS rfl ?_)
  show wpAny _ A.in1 (tryCatch (pyNext (.ref I)) _ >>= _) _ _ _
  refine wpAny_bind (wpAny_tryCatch (W.item 0 _ _ _ (show 0 < 2 by decide) st1 fun v h' tk hP hst' hk' => ?_))
  have hS' := hk' S _ (fun hm => hSI (List.mem_singleton.mp hm)) hS
  show wpAny _ A.in1 (updateSeq S (fun _ => #[v, v]) >>= _) _ _ _
  refine wpAny_bind ?_
  refine wpAny_updateSeq hS' rfl ?_
  rw [hname]
  have hv : v = .ref a := by simpa using hP.symm
  subst hv
  have hS2 := Heap.get?_update_self (Obj.mapSeq fun _ => #[Value.ref a, Value.ref a]) hS' rfl
  have u2 : ∀ b o, b ≠ S → h'.get? b = some o → (h'.update S (Obj.mapSeq fun _ => #[Value.ref a, Value.ref a])).get? b = some o := fun b o hb e => (Heap.get?_update_other _ _ (Ne.symm hb)).trans e
  have st2 := W.frame 1 _ (h'.update S (Obj.mapSeq fun _ => #[Value.ref a, Value.ref a])) hst' fun b hb o e => u2 b o (fun hh => hSf (hh ▸ hb)) e
  have oth2 : ∀ {h : Heap}, (∀ b o, b ∉ [I] → b ≠ S → (h'.update S (Obj.mapSeq fun _ => #[Value.ref a, Value.ref a])).get? b = some o → h.get? b = some o) → Ext s.heap h := fun k => oth fun b o hb hbS e => k b o hb hbS (u2 b o hbS (hk' b o hb e))
  generalize h'.update S (Obj.mapSeq fun _ => #[Value.ref a, Value.ref a]) = g₃ at hS2 st2 oth2 ⊢
  refine wpAny_pure ⟨plainId_quiet F.plain_max_loop _, codeAny_builtin F.entry_max_loop ?_⟩
  rw [Around.under_plainId F.plain_max_loop _]
  show wpAny _ A.in1 (seqItems? (.ref S) >>= _) _ _ _
  refine wpAny_bind (wpAny_seqItems hS2 rfl ?_)
  show wpAny _ A.in1 (tryCatch (pyNext (.ref I)) _ >>= _) _ _ _
  refine wpAny_bind (wpAny_tryCatch (W.item 1 _ _ _ (show 1 < 2 by decide) st2 fun v h'' tk' hP hst'' hk'' => ?_))
  have hv : v = .ref b := by simpa using hP.symm
  subst hv
  have hS3 := hk'' S _ (fun hm => hSI (List.mem_singleton.mp hm)) hS2
  have kk : Ext s.heap h'' := oth2 fun b o hb _ e => hk'' b o hb e
  show wpAny _ A.in1 (tryCatch (holding [.ref b, .ref b] (richCompare .Gt (.ref b) (.ref a) >>= _)) _ >>= _) _ _ _
  have hcmp := rc_gt_strs (A := A.in1) (s := { s with heap := h'', toks := tk' }) (IsList.goes ib fun o e => kk _ o e) qb (IsList.goes ia fun o e => kk _ o e) qa (show A.units + 1 < cLine by omega)
  refine wpAny_bind (wpAny_tryCatch (wpAny_holding (wpAny_bind (hcmp _ _ _ _ ?_))))
  refine wpAny_bind (wpAny_holding (wpAny_truthy_bool ?_))
  refine wpAny_bind (wpAny_letGo (wpAny_pure ?_))
  have oth3 : ∀ {h : Heap}, (∀ b o, b ∉ [I] → b ≠ S → h''.get? b = some o → h.get? b = some o) → Ext s.heap h := fun k => oth2 fun b o hb hbS e => k b o hb hbS (hk'' b o hb e)
  have fin : ∀ (best : Addr) (s₄ : Shared) (c : Nat), (∃ g tk, s₄ = { s with heap := g, toks := tk }) → (∀ {h : Heap}, (∀ b o, b ∉ [I] → b ≠ S → s₄.heap.get? b = some o → h.get? b = some o) → Ext s.heap h) → s₄.heap.get? S = some { cls := .type "list", dict := none, data := .seq #[.ref best, .ref best] c, slots := #[] } → (s₄.heap.IsListIter I l 2 ∧ s₄.heap.IsList l #[.ref a, .ref b]) → (best = if sLt xs ys then b else a) →
      codeAny (model prog w) A (.builtin "max.loop" ⟨[.ref I, .none, .ref S], []⟩) (fun r s' => match r with | .ok (.ret v) => Q v s' | .ok _ => False | .error e => E e s') s₄ := by
    intro best s₄ c hs₄ oth4 hS4 st4 hb
    obtain ⟨g, tk, rfl⟩ := hs₄
    refine codeAny_builtin F.entry_max_loop ?_
    rw [Around.under_plainId F.plain_max_loop _]
    show wpAny _ A.in1 (seqItems? (.ref S) >>= _) _ _ _
    refine wpAny_bind (wpAny_seqItems hS4 rfl ?_)
    show wpAny _ A.in1 (tryCatch (pyNext (.ref I)) _ >>= _) _ _ _
    refine wpAny_bind (wpAny_tryCatch (W.done _ _ _ st4 fun h5 tk5 hk5 => ?_))
    have hS5 := hk5 S _ (fun hm => hSI (List.mem_singleton.mp hm)) hS4
    show wpAny _ A.in1 (updateSeq S (fun _ => #[]) >>= _) _ _ _
    refine wpAny_bind ?_
    refine wpAny_updateSeq hS5 rfl (wpAny_bind (wpAny_letGo (wpAny_pure ?_)))
    rw [hb]
    exact hQ _ tk5 (oth4 fun b o hb hbS e => (Heap.get?_update_other _ _ (Ne.symm hbS)).trans (hk5 b o hb e))
  cases hb : sLt xs ys with
  | true =>
    simp only [if_true]
    refine wpAny_bind ?_
    refine wpAny_updateSeq hS3 rfl (wpAny_bind (wpAny_letGo ?_))
    rw [hname]
    have u3 : ∀ x o, x ≠ S → h''.get? x = some o → (h''.update S (Obj.mapSeq fun _ => #[Value.ref b, Value.ref b])).get? x = some o := fun x o hb e => (Heap.get?_update_other _ _ (Ne.symm hb)).trans e
    refine wpAny_pure ⟨plainId_quiet F.plain_max_loop _, fin b _ _ ⟨_, _, rfl⟩ (fun k => oth3 fun b o hb hbS e => k b o hb hbS (u3 b o hbS e)) (Heap.get?_update_self _ hS3 rfl) (W.frame 2 _ _ hst'' fun b hb o e => u3 b o (fun hh => hSf (hh ▸ hb)) e) (by simp [hb])⟩
  | false =>
    simp only [Bool.false_eq_true, if_false]
    refine wpAny_bind (wpAny_letGo ?_)
    rw [hname]
    exact wpAny_pure ⟨plainId_quiet F.plain_max_loop _, fin a _ _ ⟨_, _, rfl⟩ oth3 hS3 hst'' (by simp [hb])⟩
end Mine

end T_DP

section T_DQ0
open PySem PySem.W PyProof.Rows PySem.Calls PySem.Spec
open PySem.SeqAt
set_option linter.unusedVariables false
set_option linter.unusedSimpArgs false
set_option maxRecDepth 100000
namespace Mine
theorem owner_map : Manifest.owners.lookup (String.ofList ['p', 'a', 'm'].reverse) = some Manifest.sig_map := by kernel_rfl
theorem slot_map_next : PySem.Slot "map" "__next__" "map.__next__" :=
  .of (owner := "map") (n := "__next__") (by rw [typeLookup_type, builtinLookup_eq_fast]; kernel_rfl) (by decide +kernel) (by decide +kernel) (by decide +kernel)
    (by first | exact .inl (by decide +kernel) | exact .inr (by decide +kernel)) (by rw [isSubtype_type]; kernel_rfl)
theorem entry_map_next : entryFor table "map.__next__" = some Builtin.«map.__next__» := entryFor_of_tree (by kernel_rfl)
theorem args_map_next_1 (a : Value) : argsOk "map.__next__" ⟨[a], []⟩ := by
  unfold argsOk; rw [signature?_of (id := "map.__next__") (n := ['_', '_', 't', 'x', 'e', 'n', '_', '_']) (o := ['p', 'a', 'm']) (by kernel_rfl) owner_map]; kernel_rfl
theorem slot_map_iter : PySem.Slot "map" "__iter__" "map.__iter__" :=
  .of (owner := "map") (n := "__iter__") (by rw [typeLookup_type, builtinLookup_eq_fast]; kernel_rfl) (by decide +kernel) (by decide +kernel) (by decide +kernel)
    (by first | exact .inl (by decide +kernel) | exact .inr (by decide +kernel)) (by rw [isSubtype_type]; kernel_rfl)
theorem args_map_iter_1 (a : Value) : argsOk "map.__iter__" ⟨[a], []⟩ := by
  unfold argsOk; rw [signature?_of (id := "map.__iter__") (n := ['_', '_', 'r', 'e', 't', 'i', '_', '_']) (o := ['p', 'a', 'm']) (by kernel_rfl) owner_map]; kernel_rfl
theorem entry_map_iter : entryFor table "map.__iter__" = some Builtin.«dict_keyiterator.__iter__» :=
  entryFor_alias (id' := "dict_keyiterator.__iter__") (by kernel_rfl) (by first | rfl | decide +kernel | (unfold String.splitOn; simp +decide [String.splitOnAux])) (by decide +kernel) (by kernel_rfl)
theorem slot_map_init : PySem.Slot "map" "__init__" "object.__init__" :=
  .of (owner := "object") (n := "__init__") (by rw [typeLookup_type, builtinLookup_eq_fast]; kernel_rfl) (by decide +kernel) (by decide +kernel) (by decide +kernel)
    (by first | exact .inl (by decide +kernel) | exact .inr (by decide +kernel)) (by rw [isSubtype_type]; kernel_rfl)
theorem mro_map : mroOf (.type "map") = pure [.type "map", .type "object"] := by rw [mroOf_type]; kernel_rfl
theorem lookup_map_new : typeLookup (.type "map") "__new__" = pure (some (.builtin "map.__new__")) := by rw [typeLookup_type, builtinLookup_eq_fast]; kernel_rfl
theorem called_map : TypeCalled "map" "map.__new__" "object.__init__" :=
  ⟨by decide +kernel, by decide +kernel, ⟨_, _, mro_map⟩, madeBy_type mro_map lookup_map_new (by decide +kernel), by decide +kernel, by rw [isSubtype_type]; kernel_rfl, slot_map_init⟩
theorem typeCall_map_2 (a b : Value) : checkTypeCall "map" ⟨[a, b], []⟩ = pure () := by kernel_rfl
theorem newCall_map_2 (a b : Value) : checkBuiltinCall "map.__new__" ⟨[.type "map", a, b], []⟩ = pure () := by kernel_rfl
theorem entry_map_new : entryFor table "map.__new__" = some Builtin.«map.__new__» := entryFor_of_tree (by kernel_rfl)
theorem sub_map : isSubtype (.type "map") (.type "map") = pure true := by rw [isSubtype_type]; kernel_rfl
theorem map_no_len : typeLookup (.type "map") "__len__" = pure none := by rw [typeLookup_type, builtinLookup_eq_fast]; kernel_rfl
theorem map_no_hint : typeLookup (.type "map") "__length_hint__" = pure none := by rw [typeLookup_type, builtinLookup_eq_fast]; kernel_rfl

end Mine

end T_DQ0

section T_DQ
open PySem PySem.W PyProof.Rows PySem.Calls PySem.Spec
open PySem.SeqAt
set_option linter.unusedVariables false
set_option linter.unusedSimpArgs false
set_option maxRecDepth 100000
namespace Mine
abbrev IsMap (h : Heap) (M T : Addr) (f : Value) : Prop := h.get? M = some { cls := .type "map", dict := none, data := .fields #[.ref T, f], slots := #[] }
abbrev IsOne (h : Heap) (T : Addr) (a : Value) : Prop := h.get? T = some { cls := .type "tuple", data := .seq #[a] }
abbrev mapH1 (h : Heap) (l : Addr) : Heap := h.push { cls := .type "list_iterator", data := .fields #[.ref l, .int 0 0] }
abbrev mapH2 (h : Heap) (l : Addr) : Heap := (mapH1 h l).push { cls := .type "tuple", data := .seq #[.ref h.objs.size] }
abbrev mapH3 (h : Heap) (l : Addr) (f : Value) : Heap := (mapH2 h l).push { cls := .type "map", data := .fields #[.ref (mapH1 h l).objs.size, f] }
theorem meets_map_new (f l : Addr) (xs : Array Value) :
    Meets (Builtin.«map.__new__» ⟨[.type "map", .ref f, .ref l], []⟩) (fun _ R s => s.heap.IsList l xs ∧
      R (.ok (.ret (.ref (mapH2 s.heap l).objs.size))) { s with heap := mapH3 s.heap l (.ref f) }) :=
  .of_wp fun prog w A R s h => by
    obtain ⟨hp, g, d, tk, os⟩ := s; obtain ⟨hl, h⟩ := h
    have hsub := sub_map
    have hL : Heap.IsList (Shared.heap ⟨hp, g, d, tk, os⟩) l xs := hl
    wp_walk using wpAny_pyIter_list hL
    exact ⟨_, rfl, h⟩
section
variable {prog : Program} {w : World} {A : Around} {E : Value → Shared → Prop} {s : Shared}
theorem call_map_2 {f l : Addr} {xs : Array Value} {Q : Value → Shared → Prop} (hl : s.heap.IsList l xs)
    (h : ∀ h', IsMap h' (s.heap.objs.size + 2) (s.heap.objs.size + 1) (.ref f) → IsOne h' (s.heap.objs.size + 1) (.ref s.heap.objs.size) → h'.IsListIter s.heap.objs.size l 0 →
      Ext s.heap h' → Q (.ref (s.heap.objs.size + 2)) { s with heap := h' }) :
    wpAny (model prog w) A (call (.type "map") [.ref f, .ref l]) Q E s := by
  refine callType_new called_map (by decide) (typeCall_map_2 _ _) (newCall_map_2 _ _) (fun obj => F.args_object_init_3 obj _ _) entry_map_new
    (meets_map_new f l xs) ⟨hl, ?_⟩
  have z1 : (mapH1 s.heap l).objs.size = s.heap.objs.size + 1 := Heap.size_push ..
  have z2 : (mapH2 s.heap l).objs.size = s.heap.objs.size + 2 := by rw [Heap.size_push, z1]
  have g3 : (mapH3 s.heap l (.ref f)).get? (mapH2 s.heap l).objs.size = some _ := Heap.get?_push_size _ rfl
  have g2 : (mapH3 s.heap l (.ref f)).get? (mapH1 s.heap l).objs.size = some _ := Heap.get?_push_of_some _ (Heap.get?_push_size _ rfl)
  have g1 : (mapH3 s.heap l (.ref f)).get? s.heap.objs.size = some _ := Heap.get?_push_of_some _ (Heap.get?_push_of_some _ (Heap.get?_push_size _ rfl))
  show _ ∧ _
  rw [z1, z2] at g3
  rw [z1] at g2
  rw [z2]
  exact ⟨⟨_, g3, rfl⟩, h _ g3 g2 ⟨_, g1, rfl, rfl⟩ fun b o e => push_none _ _ (push_none _ _ (push_none _ _ e))⟩

theorem map_next_item {M T I l f : Addr} {k : Nat} {items : Array Value} {x : Value} {Q : Value → Shared → Prop}
    (hM : IsMap s.heap M T (.ref f)) (hT : IsOne s.heap T (.ref I)) (hI : s.heap.IsListIter I l k) (hl : s.heap.IsList l items) (hx : items[k]? = some x) (nM : M ≠ I)
    (hf : ∀ h' tk (Q' : Value → Shared → Prop), h'.IsListIter I l (k + 1) → Heap.SameBut I s.heap h' → (∀ v s', Q v s' → Q' v s') → wpAny (model prog w) A (call (.ref f) [x]) Q' E { s with heap := h', toks := tk }) :
    wpAny (model prog w) A (Builtin.«map.__next__» ⟨[.ref M], []⟩) (fun fin s' => ∃ v, fin = .done (.ret v) ∧ Q v s') E s := by
  show wpAny _ _ (field (.ref M) 0 >>= _) _ _ _
  refine wpAny_bind (wpAny_field hM rfl (x := .ref T) rfl ?_)
  refine wpAny_bind (wpAny_seqItems hT rfl ?_)
  rw [show (some #[Value.ref I]) = some #[Value.ref I] from rfl]
  dsimp only
  rw [← Array.forIn_toList, show (#[Value.ref I] : Array Value).toList = [Value.ref I] from rfl, List.forIn_cons]
  refine wpAny_bind (wpAny_bind (wpAny_bind (wpAny_holding (wpAny_nextOf_list_item hI hl hx fun h₁ hI₁ hs₁ => ?_))))
  refine wpAny_pure (wpAny_pure ?_)
  have hM₁ : IsMap h₁ M T (.ref f) := hs₁.extBut _ _ nM hM
  refine wpAny_bind (wpAny_field hM₁ rfl (x := .ref f) rfl ?_)
  refine wpAny_bind (wpAny_holding ?_)
  show wpAny _ _ (call (.ref f) [x]) _ _ _
  refine hf h₁ s.toks _ hI₁ hs₁ fun v s' hq => ?_
  exact wpAny_bind (wpAny_letGo (wpAny_pure ⟨v, rfl, hq⟩))
theorem map_next_end {M T I l f : Addr} {k : Nat} {items : Array Value} {Q : Fin → Shared → Prop} (hh : A.handled = none)
    (hM : IsMap s.heap M T (.ref f)) (hT : IsOne s.heap T (.ref I)) (hI : s.heap.IsListIter I l k) (hl : s.heap.IsList l items) (hx : items[k]? = none)
    (hE : ∀ h' e, (∀ c o, c ≠ I → s.heap.get? c = some o → h'.get? c = some o) → (∃ o, h'.get? e = some o ∧ o.cls = .type "StopIteration") → E (.ref e) { s with heap := h' }) :
    wpAny (model prog w) A (Builtin.«map.__next__» ⟨[.ref M], []⟩) Q E s := by
  show wpAny _ _ (field (.ref M) 0 >>= _) _ _ _
  refine wpAny_bind (wpAny_field hM rfl (x := .ref T) rfl ?_)
  refine wpAny_bind (wpAny_seqItems hT rfl ?_)
  rw [show (some #[Value.ref I]) = some #[Value.ref I] from rfl]
  dsimp only
  rw [← Array.forIn_toList, show (#[Value.ref I] : Array Value).toList = [Value.ref I] from rfl, List.forIn_cons]
  refine wpAny_bind (wpAny_bind (wpAny_bind (wpAny_holding (wpAny_nextOf_list_end hh hI hl hx fun h₁ e hs₁ he => ?_))))
  exact hE h₁ e (fun c o hc x => hs₁ _ _ hc x) he
theorem pyNext_map_item {M T I l f : Addr} {k : Nat} {items : Array Value} {x : Value} {Q : Option Value → Shared → Prop}
    (hM : IsMap s.heap M T (.ref f)) (hT : IsOne s.heap T (.ref I)) (hI : s.heap.IsListIter I l k) (hl : s.heap.IsList l items) (hx : items[k]? = some x) (nM : M ≠ I)
    (hf : ∀ h' tk (Q' E' : Value → Shared → Prop), h'.IsListIter I l (k + 1) → Heap.SameBut I s.heap h' → (∀ v s', Q (some v) s' → Q' v s') → wpAny (model prog w) A.in1 (call (.ref f) [x]) Q' E' { s with heap := h', toks := tk }) :
    wpAny (model prog w) A (pyNext (.ref M)) Q E s := by
  have hTy : s.TypeIs (.ref M) "map" := ⟨_, hM, rfl⟩
  unfold pyNext
  refine wpAny_bind (wpAny_attempt (wpAny_callSpecial?_slot (name := Str.ofString "__next__") hTy slot_map_next
    (wpAny_call_entry slot_map_next hTy entry_map_next (map_next_item hM hT hI hl hx nM fun h' tk Q' a b c => hf h' tk Q' _ a b fun v s' q => c v s' ?_) (args_map_next_1 _))))
  exact wpAny_pure q
theorem pyNext_map_end {M T I l f : Addr} {k : Nat} {items : Array Value} {Q : Option Value → Shared → Prop} (hh : A.handled = none)
    (hM : IsMap s.heap M T (.ref f)) (hT : IsOne s.heap T (.ref I)) (hI : s.heap.IsListIter I l k) (hl : s.heap.IsList l items) (hx : items[k]? = none)
    (hQ : ∀ h', (∀ c o, c ≠ I → s.heap.get? c = some o → h'.get? c = some o) → Q none { s with heap := h' }) :
    wpAny (model prog w) A (pyNext (.ref M)) Q E s := by
  have hTy : s.TypeIs (.ref M) "map" := ⟨_, hM, rfl⟩
  unfold pyNext
  refine wpAny_bind (wpAny_attempt (wpAny_callSpecial?_slot (name := Str.ofString "__next__") hTy slot_map_next
    (wpAny_call_entry slot_map_next hTy entry_map_next (map_next_end hh hM hT hI hl hx fun h' e hk he => ?_) (args_map_next_1 _))))
  obtain ⟨o, ho, hc⟩ := he
  refine wpAny_bind (wpAny_isInstance (T := "StopIteration") (b := true) ⟨o, ho, hc⟩ isSubtype_stop ?_)
  exact wpAny_pure (hQ _ hk)
theorem pyIter_map {M T : Addr} {f : Value} {Q : Value → Shared → Prop} (hM : IsMap s.heap M T f) (h : Q (.ref M) s) : wpAny (model prog w) A (pyIter (.ref M)) Q E s := by
  have hTy : s.TypeIs (.ref M) "map" := ⟨_, hM, rfl⟩
  refine wpAny_pyIter_slot hTy slot_map_iter (wpAny_call_entry slot_map_iter hTy entry_map_iter ?_ (args_map_iter_1 _))
  show wpAny _ _ (ret (.ref M)) _ _ s
  exact wpAny_pure ⟨_, rfl, "map", _, hTy, slot_map_next.lookup, h⟩
end
end Mine

end T_DQ

section T_DR
open PySem PySem.W PyProof.Rows PySem.Calls PySem.Spec
open PySem.SeqAt
set_option linter.unusedVariables false
set_option linter.unusedSimpArgs false
set_option maxRecDepth 100000
namespace Mine
theorem flats (xs : List Str) : ∀ a ∈ xs.map AV.str, Flat a := fun a ha => by obtain ⟨x, _, rfl⟩ := List.mem_map.mp ha; constructor
theorem Room.ins {n m : Nat} {A A' : Around} (r : Room n A) (h1 : A'.handled = A.handled) (h2 : A'.depth = A.depth) (h3 : A'.units ≤ A.units + 20 * (n - m)) (hm : m ≤ n) : Room m A' :=
  ⟨h1.trans r.1, by have := r.2.1; omega, by have := r.2.2; rw [Nat.mul_sub] at h3; omega⟩
structure MapAt (h₀ : Heap) (M T I l f : Addr) (us : List Value) (h : Heap) (i : Nat) : Prop where
  m : IsMap h M T (.ref f)
  t : IsOne h T (.ref I)
  i : h.IsListIter I l i
  l : h.IsList l us.toArray
  k : Ext h₀ h
section
variable {prog : Program} {w : World} {K : Frag} {A : Around} {R : Result → Shared → Prop} {E : Value → Shared → Prop} {h₀ : Heap} {M T I l f : Addr} {us : List Value} {xs : List Str}
theorem MapAt.up {h h' : Heap} {i : Nat} (x : MapAt h₀ M T I l f us h i) (k : Ext h h') : MapAt h₀ M T I l f us h' i :=
  ⟨k _ _ x.m, k _ _ x.t, let ⟨o, ho, r⟩ := x.i; ⟨o, k _ _ ho, r⟩, IsList.goes x.l fun o e => k _ o e, fun b o e => k b o (x.k b o e)⟩
theorem extend_map_loop (hR : Room 2 A) (B : Base K h₀) (hf : ∀ z, CallP prog w K 1 f [.str z] (.str z)) (q : Vals h₀ No us (xs.map .str)) (nM : M ≠ I) (nT : T ≠ I) (nl : l ≠ I) (hI0 : h₀.get? I = none) (hn : xs.length ≤ sizeLine)
    (S : Addr) (hS0 : h₀.get? S = none) (hSM : S ≠ M) (hST : S ≠ T) (hSI : S ≠ I) (hSl : S ≠ l) (res : Value) :
    ∀ (k i : Nat) (s : Shared) (acc : List Value) (c : Nat), xs.length - i = k → i ≤ xs.length → MapAt h₀ M T I l f us s.heap i → s.heap.get? S = some { cls := .type "list", dict := none, data := .seq acc.toArray c, slots := #[] } → Vals h₀ No acc ((xs.take i).map .str) →
    (∀ h' tk acc' c', Ext h₀ h' → h'.get? S = some { cls := .type "list", dict := none, data := .seq acc'.toArray c', slots := #[] } → Vals h₀ No acc' (xs.map .str) → R (.ok (.ret res)) { s with heap := h', toks := tk }) →
    codeAny (model prog w) A (.builtin "list.extend.loop" ⟨[.ref S, .ref M, res], []⟩) R s := by
  have hlen := strs_len q
  intro k
  induction k with
  | zero =>
    intro i s acc c hk hi hst hS hacc hR'
    have hin : i = xs.length := by omega
    subst hin
    refine codeAny_builtin F.entry_extend_loop ?_
    rw [Around.under_plainId F.plain_extend_loop _]
    show wpAny _ A.in1 (pyNext (.ref M) >>= _) _ _ s
    refine wpAny_bind (pyNext_map_end (A := A.in1) hR.1 hst.m hst.t hst.i hst.l (by simp at hlen ⊢; omega) fun h' hk' => ?_)
    refine wpAny_pure (hR' h' s.toks acc c (fun b o e => hk' b o (fun hb => by rw [hb, hI0] at e; cases e) (hst.k b o e)) (hk' _ _ hSI hS) ?_)
    rw [List.take_length] at hacc
    exact hacc
  | succ k ih =>
    intro i s acc c hk hi hst hS hacc hR'
    have hlt : i < us.toArray.size := by omega
    obtain ⟨x, t, hx, e1⟩ := strs_get q hlt
    refine codeAny_builtin F.entry_extend_loop ?_
    rw [Around.under_plainId F.plain_extend_loop _]
    show wpAny _ A.in1 (pyNext (.ref M) >>= _) _ _ s
    refine wpAny_bind (pyNext_map_item (A := A.in1) hst.m hst.t hst.i hst.l (by rw [Array.getElem?_eq_getElem hlt, e1]) nM fun h₁ tk₁ Q' E' hI₁ hs₁ hQ' => ?_)
    have k₁ : Ext h₀ h₁ := fun b o e => hs₁.extBut _ _ (fun hb => by rw [hb, hI0] at e; cases e) (hst.k b o e)
    refine hf x A.in1.in1 (hR.ins rfl rfl (by show A.units + 1 + 1 ≤ _; omega) (by omega)) { s with heap := h₁, toks := tk₁ } Q' E' [.str x t] (B.up k₁) (.cons (.str _ _) .nil) fun v s₂ g₂ q₂ => hQ' v s₂ ?_
    cases q₂ with
    | str _ t' =>
    obtain ⟨⟨h₂, tk₂, rfl⟩, k₂⟩ := g₂
    dsimp only at k₂
    have st₂ : MapAt h₀ M T I l f us h₂ (i + 1) := MapAt.up ⟨hs₁.extBut _ _ nM hst.m, hs₁.extBut _ _ nT hst.t, hI₁, IsList.goes hst.l fun o e => hs₁.extBut _ _ nl e, k₁⟩ k₂
    have hS₂ := k₂ _ _ (hs₁.extBut _ _ hSI hS)
    have hal : acc.length = i := by have := hacc.length; simp at this; omega
    show wpAny _ A.in1 (updateSeq S (·.push (.str x t')) >>= _) _ _ _
    refine wpAny_bind ?_
    refine wpAny_updateSeq hS₂ rfl (wpAny_pure ⟨plainId_quiet F.plain_extend_loop _, ?_⟩) (by simp; omega) (by simp; omega)
    have hS₃ := Heap.get?_update_self (Obj.mapSeq (·.push (.str x t'))) hS₂ rfl
    have up : ∀ b o, b ≠ S → h₂.get? b = some o → (h₂.update S (Obj.mapSeq (·.push (.str x t')))).get? b = some o := fun b o hb e => (Heap.get?_update_other _ _ (Ne.symm hb)).trans e
    have hacc' : Vals h₀ No (acc ++ [.str x t']) ((xs.take (i + 1)).map .str) := by
      rw [List.take_add_one, hx]
      rw [List.map_append]
      exact hacc.append (.cons (.str _ _) .nil)
    refine ih (i + 1) { s with heap := h₂.update S (Obj.mapSeq (·.push (.str x t'))), toks := tk₂ } (acc ++ [.str x t']) (c + 1) (by omega) (by omega) ⟨up _ _ (Ne.symm hSM) st₂.m, up _ _ (Ne.symm hST) st₂.t, let ⟨o, ho, r⟩ := st₂.i; ⟨o, up _ _ (Ne.symm hSI) ho, r⟩, IsList.goes st₂.l fun o e => up _ _ (Ne.symm hSl) e, fun b o e => up _ _ (fun hb => by rw [hb, hS0] at e; cases e) (st₂.k b o e)⟩ ?_ hacc' hR'
    have := hS₃
    simpa [Obj.mapSeq] using this
theorem collect_map {s : Shared} {Q : List Value → Shared → Prop} (hR : Room 2 A) (B : Base K h₀) (hf : ∀ z, CallP prog w K 1 f [.str z] (.str z)) (q : Vals h₀ No us (xs.map .str)) (nM : M ≠ I) (nT : T ≠ I) (nl : l ≠ I) (hI0 : h₀.get? I = none) (hn : xs.length ≤ sizeLine)
    (hst : MapAt h₀ M T I l f us s.heap 0) (hQ : ∀ h' tk acc, Ext h₀ h' → Vals h₀ No acc (xs.map .str) → Q acc { s with heap := h', toks := tk }) : wpAny (model prog w) A (collect (.ref M)) Q E s := by
  have hTy : ∀ {h : Heap} {tk : Nat}, IsMap h M T (.ref f) → Shared.TypeIs { s with heap := h, toks := tk } (.ref M) "map" := fun x => ⟨_, x, rfl⟩
  obtain ⟨oi, hoi, _⟩ := id hst.i
  obtain ⟨ol, hol, _⟩ := id hst.l
  have ne : ∀ {b : Addr} {o : Obj}, s.heap.get? b = some o → s.heap.objs.size ≠ b := fun e => Ne.symm (Nat.ne_of_lt (Heap.lt_size e))
  have hSM := ne hst.m
  have hST := ne hst.t
  have hSI := ne hoi
  have hSl := ne hol
  have hS0 : h₀.get? s.heap.objs.size = none := by
    cases e : h₀.get? s.heap.objs.size with
    | none => rfl
    | some o => exact absurd rfl (ne (hst.k _ _ e))
  unfold collect
  refine wpAny_bind (wpAny_runValue (codeAny_builtin F.entry_proto_collect ?_))
  rw [Around.under_plainId F.plain_proto_collect _]
  show wpAny _ A.in1 (newList [] >>= fun l => again (.builtin "list.__iadd__" ⟨[l, .ref M], []⟩)) _ _ s
  refine wpAny_bind (wpAny_newObj_type ?_)
  refine wpAny_pure ⟨plainId_quiet F.plain_list_iadd _, codeAny_builtin F.entry_list_iadd ?_⟩
  rw [Around.under_plainId F.plain_list_iadd _]
  have hst₁ : MapAt h₀ M T I l f us (s.heap.push { cls := .type "list", data := .seq ([] : List Value).toArray }) 0 := hst.up push_none
  show wpAny _ A.in1 (Builtin.List.listExtendWith (.ref s.heap.objs.size) (.ref M) (.ref s.heap.objs.size)) _ _ _
  unfold Builtin.List.listExtendWith
  refine wpAny_bind (wpAny_typeOf (hTy (tk := s.toks) hst₁.m) ?_)
  have h1 : Builtin.List.listSameRef (.ref s.heap.objs.size) (.ref M) = false := by simp [Builtin.List.listSameRef, hSM]
  have h2 : (Value.type "map" == Value.type "list") = false := by decide
  have h3 : (Value.type "map" == Value.type "tuple") = false := by decide
  simp only [h1, h2, h3, Bool.or_false, Bool.false_eq_true, if_false]
  refine wpAny_bind (pyIter_map hst₁.m ?_)
  refine wpAny_bind (wpAny_holding ?_)
  unfold Builtin.List.listLengthHint
  refine wpAny_bind (wpAny_specialOf (hTy (tk := s.toks) hst₁.m) map_no_len ?_)
  show wpAny _ A.in1 (specialOf (Value.ref M) (Str.ofString "__length_hint__") >>= _) _ _ _
  refine wpAny_bind (wpAny_specialOf (hTy (tk := s.toks) hst₁.m) map_no_hint ?_)
  refine wpAny_pure ?_
  show wpAny _ A.in1 (rule "list.extend.makes-room" >>= fun _ => Builtin.List.listTouch (.ref s.heap.objs.size) >>= fun _ =>
    again (.builtin "list.extend.loop" ⟨[.ref s.heap.objs.size, .ref M, .ref s.heap.objs.size], []⟩)) _ _ _
  refine wpAny_bind (wpAny_rule ?_)
  have hS₁ : (s.heap.push { cls := .type "list", data := .seq ([] : List Value).toArray }).get? s.heap.objs.size = some { cls := .type "list", data := .seq ([] : List Value).toArray } := Heap.get?_push_size _ rfl
  refine wpAny_bind ?_
  show wpAny _ A.in1 (updateSeq s.heap.objs.size (·.push .none) >>= fun _ => updateSeq s.heap.objs.size (·.pop)) _ _ _
  refine wpAny_bind (wpAny_updateSeq hS₁ rfl ?_)
  have hS₂ := Heap.get?_update_self (Obj.mapSeq (·.push Value.none)) hS₁ rfl
  refine wpAny_updateSeq hS₂ rfl ?_
  have hS₃ := Heap.get?_update_self (Obj.mapSeq (·.pop)) hS₂ rfl
  have oth : ∀ b o, b ≠ s.heap.objs.size → (s.heap.push { cls := .type "list", data := .seq ([] : List Value).toArray }).get? b = some o →
      (((s.heap.push { cls := .type "list", data := .seq ([] : List Value).toArray }).update s.heap.objs.size (Obj.mapSeq (·.push Value.none))).update s.heap.objs.size (Obj.mapSeq (·.pop))).get? b = some o :=
    fun b o hb e => (Heap.get?_update_other _ _ (Ne.symm hb)).trans ((Heap.get?_update_other _ _ (Ne.symm hb)).trans e)
  refine wpAny_pure ⟨plainId_quiet F.plain_extend_loop _, extend_map_loop hR B hf q nM nT nl hI0 hn _ hS0 hSM hST hSI hSl _ _ 0 _ [] 2 rfl (Nat.zero_le _) ?_ (by simpa [Obj.mapSeq] using hS₃) .nil fun h' tk acc' c' k' hS' hacc => ?_⟩
  · exact ⟨oth _ _ (Ne.symm hSM) hst₁.m, oth _ _ (Ne.symm hST) hst₁.t, let ⟨o, ho, r⟩ := hst₁.i; ⟨o, oth _ _ (Ne.symm hSI) ho, r⟩, IsList.goes hst₁.l fun o e => oth _ _ (Ne.symm hSl) e, fun b o e => oth _ _ (fun hb => by rw [hb, hS0] at e; cases e) (hst₁.k b o e)⟩
  show wpAny _ A (load s.heap.objs.size >>= _) _ _ _
  refine wpAny_bind (wpAny_load hS' ?_)
  exact wpAny_pure (by simpa using hQ h' tk acc' k' hacc)
end
end Mine

end T_DR

section T_DS
open PySem PySem.W PyProof.Rows PySem.Calls PySem.Spec
open PySem.SeqAt
set_option linter.unusedVariables false
set_option linter.unusedSimpArgs false
set_option maxRecDepth 100000
namespace Mine
section
variable {prog : Program} {w : World} {K : Frag} {A : Around} {R : Result → Shared → Prop} {E : Value → Shared → Prop} {h₀ : Heap} {M T I l f : Addr} {us : List Value} {xs : List Str} {s : Shared}
theorem code_tuple_map {Q₁ : Value → Shared → Prop} (hR : Room 3 A) (B : Base K h₀) (hf : ∀ z, CallP prog w K 1 f [.str z] (.str z)) (q : Vals h₀ No us (xs.map .str)) (nM : M ≠ I) (nT : T ≠ I) (nl : l ≠ I) (hI0 : h₀.get? I = none) (hn : xs.length ≤ sizeLine)
    (hst : MapAt h₀ M T I l f us s.heap 0)
    (h : ∀ h' tk acc, Ext h₀ h' → Vals h₀ No acc (xs.map .str) → Q₁ (.ref h'.objs.size) { s with heap := h'.push { cls := .type "tuple", data := .seq acc.toArray }, toks := tk }) :
    codeAny (model prog w) A (.call (.builtin "tuple.__new__") ⟨[.type "tuple", .ref M], []⟩) (wants Q₁ E) s := by
  refine codeAny_of_tree ?_
  show wpAny _ A.in1 (do checkBuiltinCall "tuple.__new__" ⟨[.type "tuple", .ref M], []⟩; again (.builtin "tuple.__new__" ⟨[.type "tuple", .ref M], []⟩)) _ _ s
  refine wpAny_bind (wpAny_of_eq (F.newCall_tuple_1 _) (wpAny_pure ⟨plainId_quiet F.plain_tuple_new _, codeAny_builtin F.entry_tuple_new ?_⟩))
  rw [Around.under_plainId F.plain_tuple_new _]
  have hsub := sub_tuple_self
  have hinit := init_tuple_lookup
  have hmh := madeHere_tuple
  have hTI : s.TypeIs (.ref M) "map" := ⟨_, hst.m, rfl⟩
  have hR2 : Room 2 A.in1.in1 := hR.ins rfl rfl (by show A.units + 1 + 1 ≤ _; omega) (by omega)
  have hR3 : Room 2 A.in1 := hR.ins rfl rfl (by show A.units + 1 ≤ _; omega) (by omega)
  wp_walk using wpAny_typeOf hTI, collect_map (by first | exact hR3 | exact hR2) B hf q nM nT nl hI0 hn hst
  intro h' tk acc k' hacc
  show wpAny _ _ (Builtin.Tuple.tupleExact acc.toArray >>= fun v => ret v) _ _ _
  unfold Builtin.Tuple.tupleExact
  have hal := hacc.length
  refine wpAny_bind (wpAny_newObj_type ?_ (show acc.toArray.size ≤ sizeLine by rw [List.length_map] at hal; rw [List.size_toArray]; omega))
  exact wpAny_pure (h h' tk acc k' hacc)
theorem call_tuple_map {Q : Value → Shared → Prop} (hR : Room 4 A) (B : Base K h₀) (hf : ∀ z, CallP prog w K 1 f [.str z] (.str z)) (q : Vals h₀ No us (xs.map .str)) (nM : M ≠ I) (nT : T ≠ I) (nl : l ≠ I) (hI0 : h₀.get? I = none) (hn : xs.length ≤ sizeLine)
    (hst : MapAt h₀ M T I l f us s.heap 0)
    (hQ : ∀ h' tk acc, Ext h₀ h' → Vals h₀ No acc (xs.map .str) → Q (.ref h'.objs.size) { s with heap := h'.push { cls := .type "tuple", data := .seq acc.toArray }, toks := tk }) :
    wpAny (model prog w) A (call (.type "tuple") [.ref M]) Q E s := by
  refine callType_codes (Q₁ := fun obj s₁ => s₁.TypeIs obj "tuple" ∧ Q obj s₁) F.called_tuple (F.typeCall_tuple_1 _) F.entry_object_init
    (code_tuple_map (hR.ins rfl rfl (by show A.units + 1 ≤ _; omega) (by omega)) B hf q nM nT nl hI0 hn hst fun h' tk acc k' hacc => ⟨⟨_, Heap.get?_push_size _ rfl, rfl⟩, hQ h' tk acc k' hacc⟩) fun obj s₁ h₁ => ?_
  exact ⟨h₁.1, F.args_object_init_2 obj _, object_init_meets F.called_tuple.init.lookup F.called_tuple.made (by decide) prog w A.in1 _ s₁ ⟨h₁.1, rfl, h₁.2⟩⟩
end
section
variable {prog : Program} {w : World} {K : Frag} {n : Nat} {env : Env} {h₀ : Heap} {ex : Addr → Prop} {vs vs' : Vars} {S S' : Heap → Prop} {Q : Flow → Heap → Prop} {rest : List Stmt}
/-- tuple(map(f, e)), f a def that gives back its text -/
theorem Ev.tupleMap {f : Str} {fa : Addr} {p1 p2 p3 p4 p5 : Pos} {e : Expr} {xs : List Str} (hn : 4 ≤ n) (hnt : nsIn K mainGlobals "tuple" = some none) (hnm : nsIn K mainGlobals "map" = some none) (hnf : nsIn K mainGlobals f = some (some (.ref fa)))
    (hkt : env.kindOf "tuple" = some .globalImplicit) (hkm : env.kindOf "map" = some .globalImplicit) (hkf : env.kindOf f = some .globalImplicit) (hfd : (f == ("__debug__" : Str)) = false)
    (hf : ∀ z, CallP prog w K 1 fa [.str z] (.str z)) (he : Ev prog w K n env ex vs e (.list (xs.map .str))) (hsz : xs.length ≤ sizeLine)
    (h1 : starEach [.Call (.Name "map" p2) [.Name f p3, e] [] p4] env = (false, eval (.Call (.Name "map" p2) [.Name f p3, e] [] p4) env) :: starEach [] env) (h2 : starEach [.Name f p3, e] env = (false, eval (.Name f p3) env) :: starEach [e] env) (h3 : starEach [e] env = (false, eval e env) :: starEach [] env) :
    Ev prog w K n env ex vs (.Call (.Name "tuple" p1) [.Call (.Name "map" p2) [.Name f p3, e] [] p4] [] p5) (.tup (xs.map .str)) := by
  intro A R s Q E S h
  rw [eval_Call_Name]
  refine wpAny_bind (Ev.builtin (prog := prog) (w := w) (n := n) hnt (by decide +kernel : bootBuiltins "tuple" = some (.type "tuple")) hkt (by decide) (by decide) A R s _ _ S fun v s₁ g₁ q₁ => ?_)
  cases q₁
  refine PyProof.Rows.callWith_type1 (wpAny_items_cons ?_ h1) h1 rfl
  have S₁ := S.up g₁
  rw [eval_Call_Name]
  refine wpAny_bind (Ev.builtin (prog := prog) (w := w) (n := n) hnm boot_map hkm (by decide) (by decide) A R s₁ _ _ S₁ fun v s₂ g₂ q₂ => ?_)
  cases q₂
  have S₂ := S₁.up g₂
  refine PyProof.Rows.callWith_type1 (wpAny_items_cons (Ev.global (prog := prog) (w := w) (n := n) hnf hkf hfd A R s₂ _ _ S₂ fun v s₃ g₃ q₃ => wpAny_items_cons (he A R s₃ _ _ (S₂.up g₃) fun u s₄ g₄ q₄ => wpAny_items_nil ?_) h3) h2) h2 (by rw [h3]; rfl)
  cases q₃
  cases q₄ with
  | @list l us _ hex il qv =>
  have S₄ := (S₂.up g₃).up g₄
  have qv' : Vals s₄.heap No us (xs.map .str) := qv.flat (flats xs)
  refine call_map_2 il fun h₅ hM hT hI k₅ => wpAny_items_nil ?_
  obtain ⟨ol, hol, _⟩ := id il
  refine call_tuple_map (h₀ := s₄.heap) (K := K) (R.less hn) S₄.base hf qv' (Nat.ne_of_gt (Nat.lt_add_of_pos_right (by decide))) (Nat.ne_of_gt (Nat.lt_add_of_pos_right (by decide))) (Nat.ne_of_lt (Heap.lt_size hol)) (no_next _) hsz ⟨hM, hT, hI, IsList.goes il fun o e => k₅ _ o e, k₅⟩ fun h' tk acc k' hacc => ?_
  have g := ((g₁.trans g₂).trans g₃).trans g₄
  refine h _ _ (g.trans ⟨⟨_, _, rfl⟩, fun b o e => push_none _ _ (k' _ _ e)⟩) (.tup ?_ ⟨_, Heap.get?_push_size _ rfl, rfl, 0, rfl⟩ (hacc.flat (flats xs)))
  intro hx
  obtain ⟨o, e⟩ := S₄.there _ hx
  exact Nat.lt_irrefl _ (Heap.lt_size (k' _ _ e))
end
end Mine

end T_DS

section T_DT
open PySem PySem.W PyProof.Rows PySem.Calls PySem.Spec
open PySem.SeqAt
set_option linter.unusedVariables false
set_option linter.unusedSimpArgs false
set_option maxRecDepth 100000
namespace Mine
section
variable {prog : Program} {w : World} {K : Frag} {n : Nat} {env : Env} {h₀ : Heap} {ex : Addr → Prop} {vs vs' : Vars} {S S' : Heap → Prop} {Q : Flow → Heap → Prop} {rest : List Stmt}
/-- objects that are no name's place and no list change -/
theorem StS.others {h h' : Heap} (P : Addr → Prop) (S : StS K env h₀ ex vs h) (hd : ∀ b o items k, P b → h.get? b = some o → o.data ≠ .seq items k) (nL : ¬ P env.locals) (nC : ∀ x c, env.cells.lookup x = some c → ¬ P c) (h0 : ∀ b, P b → h₀.get? b = none) (hI : ∀ b, P b → ¬ ex b) (k : ∀ b o, ¬ P b → h.get? b = some o → h'.get? b = some o) : StS K env h₀ ex vs h' := by
  have sk : SeqKept ex h h' := fun b o' items n hb e hd' => k b o' (fun q => hd _ o' items n q e hd') e
  have gg : ∀ {x : Str} {v : Value}, Get env h x v → Get env h' x v := by
    intro x v g
    cases g with
    | loc m a b c => exact .loc m a (b.at' fun o e => k _ o nL e) c
    | cel c a b d => obtain ⟨o', ho', hd'⟩ := d; exact .cel c a b ⟨o', k _ _ (nC x c b) ho', hd'⟩
  have hk0 : Ext h₀ h' := fun b o' e => k b o' (fun q => by rw [h0 b q] at e; cases e) (S.keep b o' e)
  refine ⟨⟨S.e.fn, S.e.gl, S.e.bl, S.base0.up hk0, ?_, ?_⟩, S.base0, ?_, hk0, S.newL, S.newO, S.ownd, ?_, S.celld, S.names, S.kinds⟩
  · intro b hb
    obtain ⟨o', e⟩ := S.e.there b hb
    exact ⟨o', k b o' (fun q => hI b q hb) e⟩
  · intro p hp
    have old := S.e.holds p hp
    obtain ⟨y, sl⟩ := p
    cases sl with
    | free => trivial
    | val a => obtain ⟨v, g, q⟩ := old; exact ⟨v, gg g, q.moves sk fun _ _ n _ => n⟩
    | own l pp xs => obtain ⟨g, e, us, il, r⟩ := old; exact ⟨gg g, e, us, il.goes fun o' e' => k _ o' (fun q => hI l q e) e', r.moves sk fun _ _ n _ => n⟩
  · obtain ⟨m, q⟩ := S.ns; exact ⟨m, q.at' fun o e => k _ o nL e⟩
  · intro x c hc
    obtain ⟨a, v, o', ho', hd'⟩ := S.cells x c hc
    exact ⟨a, v, o', k _ _ (nC x c hc) ho', hd'⟩
/-- two addresses that the frame knows nothing of -/
theorem StS.fresh {h : Heap} (S : StS K env h₀ ex vs h) {I : Addr} (hI : h.get? I = none) : I ≠ env.locals ∧ (∀ x c, env.cells.lookup x = some c → I ≠ c) ∧ ¬ ex I ∧ h₀.get? I = none := by
  refine ⟨?_, fun x c hc e => ?_, fun hx => ?_, ?_⟩
  · obtain ⟨m, o, es, ep, ho, _⟩ := S.ns; intro e; rw [← e, hI] at ho; cases ho
  · obtain ⟨_, v, o, ho, _⟩ := S.cells x c hc; rw [← e, hI] at ho; cases ho
  · obtain ⟨o, e⟩ := S.e.there _ hx; rw [hI] at e; cases e
  · cases e : h₀.get? I with
    | none => rfl
    | some o => have := S.keep _ _ e; rw [hI] at this; cases this
/-- for i, c in enumerate(e), e a list that is no own one -/
theorem Ex.forEnum {σ : Type} (V : σ → Vars) (P : Nat → σ → Prop) (B : Heap → Prop) {xi xc : Str} {pi pc pt pf pcall pos : Pos} {k1 : Nat} {e : Expr} {body : List Stmt} {xs : List AV} (c₀ : σ)
    (hn : nsIn K mainGlobals "enumerate" = some none) (hk : env.kindOf "enumerate" = some .globalImplicit)
    (he : Ev prog w K n env ex vs e (.list xs)) (h1 : starEach [e] env = (false, eval e env) :: starEach [] env) (hv : V c₀ = vs) (hp₀ : P 0 c₀)
    (turn : ∀ i a c, xs[i]? = some a → P i c → ∃ vs', Upds [(xi, .int (i : Int)), (xc, a)] (V c) vs' ∧ Ex prog w n env ex (StS K env h₀ ex vs') body (fun f h => match f with
      | .next | .cont => ∃ c', P (i + 1) c' ∧ StS K env h₀ ex (V c') h
      | .brk => B h
      | .ret v => Q (.ret v) h))
    (done : ∀ c, P xs.length c → Ex prog w n env ex (StS K env h₀ ex (V c)) rest Q)
    (brk : Ex prog w n env ex B rest Q)
    (hs : ∀ x, foldedSetIterable (.Call (.Name "enumerate" pf) [e] [] pcall) env x = pure x := by intro _; rfl) :
    Ex prog w n env ex (StS K env h₀ ex vs) (.For (.Tuple [.Name xi pi, .Name xc pc] k1 pt) (.Call (.Name "enumerate" pf) [e] [] pcall) body [] pos :: rest) Q := by
  intro A R s E hS
  subst hv
  refine wpAny_execs_cons (wpAny_For ?_ hs)
  rw [eval_Call_Name]
  refine wpAny_bind (Ev.builtin (prog := prog) (w := w) (n := n) hn boot_enumerate hk (by decide) (by decide) A R s _ _ hS.e fun v s₁ g₁ q₁ => ?_)
  cases q₁
  refine PyProof.Rows.callWith_type1 (wpAny_items_cons (he A R s₁ _ _ (hS.grow g₁).e fun v s₂ g₂ q₂ => wpAny_items_nil ?_) h1) h1 rfl
  cases q₂ with
  | @list l us _ hex il hvs =>
  have S₂ := (hS.grow g₁).grow g₂
  refine call_enumerate_list il fun h₃ hE hit hsz k₃ => ?_
  obtain ⟨ol, hol, hcl, nl, hdl⟩ := id il
  have g12 := g₁.trans g₂
  obtain ⟨⟨h₂, tk₂, rfl⟩, k₂⟩ := g12
  dsimp only at il hvs S₂ hE hit hsz k₃ hol k₂ ⊢
  have hitN : h₂.get? h₂.objs.size = none := no_next _
  have heN : h₂.get? (h₂.objs.size + 1) = none := Heap.get?_none_of_le (Nat.le_succ _)
  have f1 := S₂.fresh hitN
  have f2 := S₂.fresh heN
  have hll : l < h₂.objs.size := Heap.lt_size hol
  have hle : l ≠ h₂.objs.size + 1 := Nat.ne_of_lt (Nat.lt_succ_of_lt hll)
  have hli : l ≠ h₂.objs.size := Nat.ne_of_lt hll
  have hei : h₂.objs.size + 1 ≠ h₂.objs.size := Nat.succ_ne_self _
  generalize h₂.objs.size + 1 = ea at *
  generalize h₂.objs.size = ia at *
  have W := WalksT.enumerate (prog := prog) (w := w) (A := A) R.1 ea ia l hei hle hli us.toArray
  refine wpAny_pyIter_enum hE ?_
  have hlen := hvs.length
  have hfr : ∀ {h h' : Heap} {i : Nat} {c : σ}, StS K env h₀ ex (V c) h → (∃ oe fe, h.get? ea = some oe ∧ oe.data = .fields fe) → (∃ oi fi, h.get? ia = some oi ∧ oi.data = .fields fi) → (∀ b o, b ∉ [ea, ia] → h.get? b = some o → h'.get? b = some o) → StS K env h₀ ex (V c) h' := by
    intro h h' i c S he' hi' k
    refine S.others (fun b => b = ea ∨ b = ia) (fun b o items k hb e hd => ?_) (fun q => q.elim (fun q => f2.1 q.symm) fun q => f1.1 q.symm) (fun x c hc q => q.elim (fun q => f2.2.1 x c hc q.symm) fun q => f1.2.1 x c hc q.symm) (fun b q => q.elim (fun q => q ▸ f2.2.2.2) fun q => q ▸ f1.2.2.2) (fun b q => q.elim (fun q => q ▸ f2.2.2.1) fun q => q ▸ f1.2.2.1) fun b o hb e => k b o (by simpa using hb) e
    rcases hb with rfl | rfl
    · obtain ⟨oe, fe, h1, h2⟩ := he'; rw [h1] at e; cases e; rw [hd] at h2; cases h2
    · obtain ⟨oe, fe, h1, h2⟩ := hi'; rw [h1] at e; cases e; rw [hd] at h2; cases h2
  have fieldsE : ∀ {h : Heap} {i : Int} {old : Value}, IsEnum h ea ia i old → ∃ oe fe, h.get? ea = some oe ∧ oe.data = .fields fe := fun x => ⟨_, _, x, rfl⟩
  have fieldsI : ∀ {h : Heap} {i : Nat}, h.IsListIter ia l i → ∃ oe fe, h.get? ia = some oe ∧ oe.data = .fields fe := fun ⟨o, ho, _, hd⟩ => ⟨_, _, ho, hd⟩
  refine codeAny_forLoop_any (fun k s' => ∃ i c h' tk, s' = { s with heap := h', toks := tk } ∧ i ≤ xs.length ∧ k = xs.length + 1 - i ∧ P i c ∧ StS K env h₀ ex (V c) h' ∧ ((∃ old, IsEnum h' ea ia i old) ∧ h'.IsListIter ia l i ∧ h'.IsList l us.toArray) ∧ Vals h' ex us xs ∧ Kept env ex h₂ h') ?_ (xs.length + 1) ⟨0, c₀, h₃, tk₂, rfl, Nat.zero_le _, rfl, hp₀, S₂.up k₃, ⟨⟨_, by simpa using hE⟩, hit, IsList.goes il fun o e => k₃ _ o e⟩, hvs.up k₃, Kept.of_ext k₃⟩
  rintro k s' ⟨i, c, h', tk, rfl, hi, rfl, hp, S', st, ph, kk⟩
  have skE : ∀ {h₁ h₂ : Heap}, (∃ oe fe, h₁.get? ea = some oe ∧ oe.data = .fields fe) → (∃ oi fi, h₁.get? ia = some oi ∧ oi.data = .fields fi) → (∀ b o, b ∉ [ea, ia] → h₁.get? b = some o → h₂.get? b = some o) → SeqKept ex h₁ h₂ := by
    intro h₁ h₂ he' hi' k b o items nn _ e hd
    refine k b o ?_ e
    intro hm
    rcases List.mem_cons.mp hm with rfl | hm
    · obtain ⟨oe, fe, h1, h2⟩ := he'; rw [h1] at e; cases e; rw [hd] at h2; cases h2
    · rw [List.mem_singleton.mp hm] at e; obtain ⟨oe, fe, h1, h2⟩ := hi'; rw [h1] at e; cases e; rw [hd] at h2; cases h2
  have kB : ∀ {h₁ h₂' : Heap}, Kept env ex h₂ h₁ → (∀ b o, b ∉ [ea, ia] → h₁.get? b = some o → h₂'.get? b = some o) → Kept env ex h₂ h₂' := fun k1 k b o a1 a2 a3 e => k b o (by
    intro hm
    rcases List.mem_cons.mp hm with rfl | hm
    · rw [heN] at e; cases e
    · rw [List.mem_singleton.mp hm, hitN] at e; cases e) (k1 b o a1 a2 a3 e)
  by_cases hlt : i < xs.length
  · have hltu : i < us.toArray.size := by simp; omega
    obtain ⟨a, ha⟩ : ∃ a, xs[i]? = some a := ⟨xs[i], by simp [hlt]⟩
    refine W.item i _ _ _ hltu st fun T vals h₁ tk₁ hPv hTn hT mid k₁ => ?_
    obtain ⟨t, x, hx, rfl⟩ := hPv
    have S₁ := hfr (i := i) S' (fieldsE st.1.choose_spec) (fieldsI st.2.1) k₁
    have ph₁ := ph.moves (skE (fieldsE st.1.choose_spec) (fieldsI st.2.1) k₁) fun _ _ n _ => n
    have kk₁ := kB kk k₁
    have hTw := W.apart _ _ _ mid
    refine W.go _ _ _ _ _ _ _ _ mid fun h₄ st₄ k₄ => ?_
    obtain ⟨⟨xo, hxo⟩, hmi, hml, _⟩ := mid
    have feE : ∃ oe fe, h₁.get? ea = some oe ∧ oe.data = .fields fe := ⟨_, _, hxo, rfl⟩
    have S₄ := hfr (i := i) S₁ feE (fieldsI hmi) k₄
    have ph₄ := ph₁.moves (skE feE (fieldsI hmi) k₄) fun _ _ n _ => n
    have kk₄ := kB kk₁ k₄
    have hT₄ : h₄.IsTuple T #[.int i t, x] := IsTuple.goes hT fun o e => k₄ _ o hTw e
    refine wpAny_assign_Tuple R.1 hT₄ rfl rfl fun h₅ he₅ => ?_
    have k₅ : Ext h₄ h₅ := fun b o e => he₅ b o (Nat.ne_of_lt (Heap.lt_size e)) e
    obtain ⟨a', ha', qx⟩ := ph₄.get' (i := i) (v := x) (by simpa using hx)
    rw [ha] at ha'; cases ha'
    obtain ⟨vs', u, body⟩ := turn i a c ha hp
    refine storesT (es := [.Name xi pi, .Name xc pc]) (ps := [(xi, .int (i : Int)), (xc, a)]) (.cons (.cons .nil)) (s := { s with heap := h₅, toks := tk₁ }) u (.cons (.int _ _) (.cons (qx.up k₅) .nil)) (S₄.up k₅) fun h₆ tk₆ S₆ k₆ => ?_
    have ph₆ := (ph₄.up k₅).moves ((S₄.up k₅).seqKept k₆) fun _ _ n _ => n
    refine wpAny_mono (body A R _ _ S₆) (fun f s₃ ⟨⟨h₇, tk₇, e₇⟩, k₇, q⟩ => ?_) fun _ _ x => x
    subst e₇
    have ph₇ := ph₆.moves (S₆.seqKept k₇) fun _ _ n _ => n
    have kk₇ : Kept env ex h₂ h₇ := ((kk₄.trans (Kept.of_ext k₅)).trans k₆).trans k₇
    have keep : ∀ b, (b ≠ env.locals ∧ (∀ x c, env.cells.lookup x = some c → b ≠ c) ∧ ¬ ex b) → ∀ o, h₄.get? b = some o → h₇.get? b = some o := fun b q o e => k₇ b o q.1 q.2.1 q.2.2 (k₆ b o q.1 q.2.1 q.2.2 (k₅ b o e))
    obtain ⟨⟨old, st4e⟩, st4i, st4l⟩ := st₄
    obtain ⟨ol', hol', _, nl', hdl'⟩ := id st4l
    have st₇ : (∃ old, IsEnum h₇ ea ia ((i + 1 : Nat) : Int) old) ∧ h₇.IsListIter ia l (i + 1) ∧ h₇.IsList l us.toArray := by
      refine ⟨⟨old, keep ea ⟨f2.1, f2.2.1, f2.2.2.1⟩ _ st4e⟩, ?_, ?_⟩
      · obtain ⟨o, ho, r⟩ := st4i; exact ⟨o, keep ia ⟨f1.1, f1.2.1, f1.2.2.1⟩ _ ho, r⟩
      · exact IsList.goes st4l fun o e => keep l ⟨(S₄.seqNe hol' hdl').1, (S₄.seqNe hol' hdl').2, hex⟩ o e
    cases f with
    | next => obtain ⟨c', p', S₇⟩ := q; exact ⟨xs.length + 1 - (i + 1), by omega, i + 1, c', h₇, tk₇, rfl, hlt, rfl, p', S₇, st₇, ph₇, kk₇⟩
    | cont => obtain ⟨c', p', S₇⟩ := q; exact ⟨xs.length + 1 - (i + 1), by omega, i + 1, c', h₇, tk₇, rfl, hlt, rfl, p', S₇, st₇, ph₇, kk₇⟩
    | brk => exact ex_then R brk q ((Kept.of_ext k₂).trans kk₇)
    | ret v => exact ⟨⟨_, _, rfl⟩, (Kept.of_ext k₂).trans kk₇, q⟩
  · have hin : i = us.toArray.size := by simp; omega
    subst hin
    refine W.done _ _ _ st fun h₁ tk₁ k₁ => wpAny_execs_nil ?_
    have S₁ := hfr (i := 0) S' (fieldsE st.1.choose_spec) (fieldsI st.2.1) k₁
    have hxl : us.toArray.size = xs.length := by simp; omega
    rw [hxl] at hp
    exact ex_then R (done c hp) S₁ ((Kept.of_ext k₂).trans (kB kk k₁))
end
end Mine

end T_DT

section T_DU
open PySem PySem.W PyProof.Rows PySem.Calls PySem.Spec
open PySem.SeqAt
set_option linter.unusedVariables false
set_option linter.unusedSimpArgs false
set_option maxRecDepth 100000
namespace Mine
/-! ## a set that holds True, or nothing -/
def T1' (led : Bool) : SetTable := { mask := 7, place := #[1], dummies := #[], finger := 0, led := led, moves := 0, plain := true }
theorem layNew_true (led : Bool) : layNew (.fresh 0 0 led) #[] 1 (.bool true) = (#[(1, .bool true)], T1' led, false, false) := by cases led <;> kernel_rfl
abbrev setObj (ep : Nat) (led : Bool) (i : Nat) : Obj := { cls := .type "set", dict := none, data := match i with | 0 => .set #[] ep (.fresh 0 0 led) | _ + 1 => .set #[(1, .bool true)] ep (T1' led), slots := #[] }
def SetAt (h : Heap) (D : Addr) (led : Bool) (i : Nat) : Prop := ∃ ep, h.get? D = some (setObj ep led i)
theorem SetAt.up {h h' : Heap} {D : Addr} {led : Bool} {i : Nat} (x : SetAt h D led i) (k : ∀ o, h.get? D = some o → h'.get? D = some o) : SetAt h' D led i := let ⟨ep, q⟩ := x; ⟨ep, k _ q⟩
theorem SetAt.le1 {h : Heap} {D : Addr} {led : Bool} {i j : Nat} (x : SetAt h D led (i + 1)) : SetAt h D led (j + 1) := x
def ledOf (w : World) : Bool := !(w.params.followText "set-order")
section
variable {prog : Program} {w : World} {A : Around} {E : Value → Shared → Prop} {s : Shared}
theorem newSet_at {Q : Value → Shared → Prop} (h : ∀ h', Ext s.heap h' → h'.objs.size = s.heap.objs.size + 1 → SetAt h' s.heap.objs.size (ledOf w) 0 → Q (.ref s.heap.objs.size) { s with heap := h' }) : wpAny (model prog w) A (newSet (.type "set")) Q E s := by
  unfold newSet setsByText
  refine wpAny_bind (wpAny_bind (wpAny_askSetting (wpAny_pure ?_)))
  dsimp only
  simp only [newObj]
  exact wpAny_bind (wpAny_alloc (wpAny_pure (h _ push_none (Heap.size_push ..) ⟨0, Heap.get?_push_size _ rfl⟩)))
theorem pyHash_true {Q : Int → Shared → Prop} (h : Q 1 { s with toks := s.toks + 1 }) : wpAny (model prog w) A (PySem.pyHash (.bool true)) Q E s := by
  have hT : s.TypeIs (.bool true) "bool" := rfl
  show wpAny _ _ (pyHashByItsType (.bool true)) _ _ _
  unfold pyHashByItsType
  have hv : [Value.bool true].any Value.onHeap = false := rfl
  refine wpAny_bind ?_
  rw [cRoomFor, if_neg (by rw [hv]; exact Bool.false_ne_true)]; refine wpAny_pure ?_
  refine wpAny_bind (wpAny_specialOf hT F.slot_bool_hash.lookup ?_)
  show wpAny _ _ (if (some (Value.builtin "int.__hash__") == some Value.none) = true then _ else _) Q E s
  rw [if_neg (by rw [beq_builtin_none]; exact Bool.false_ne_true)]
  refine wpAny_bind (wpAny_specialOf hT F.slot_bool_hash.lookup ?_)
  show wpAny _ _ (callSpecialIfBoundUnlessNone? (.bool true) "__hash__" _ >>= _) Q E s
  refine wpAny_bind (wpAny_callSpecialIfBoundUnlessNone?_slot hT F.slot_bool_hash
    (wpAny_call_entry F.slot_bool_hash hT F.entry_int_hash
      (show wpAny _ _ (do ret (← mkInt (rawHash 1))) _ _ s from wpAny_ret_mkInt ?_) (F.args_int_hash_1 _)))
  show wpAny _ _ (if (decide (-(2 : Int) ^ 63 ≤ rawHash 1) && decide (rawHash 1 < 2 ^ 63)) = true then _ else _) Q E _
  rw [if_pos (by decide +kernel)]
  exact wpAny_pure (by simpa [show rawHash 1 = 1 by decide +kernel] using h)
theorem add_true {D : Addr} {i : Nat} {Q : Bool → Shared → Prop} (hS : SetAt s.heap D (ledOf w) i) (h : ∀ h' b, Heap.SameBut D s.heap h' → SetAt h' D (ledOf w) (i + 1) → Q b { s with heap := h' }) :
    wpAny (model prog w) A (setAddHashed D (.bool true) 1) Q E s := by
  obtain ⟨ep, ho⟩ := hS
  unfold setAddHashed setAddHashedIn
  cases i with
  | zero =>
    have hf : (SetTable.fresh 0 0 (ledOf w)).fits (#[] : Array (Int × Value)).size = true := rfl
    refine wpAny_holding (wpAny_bind (wpAny_setState_of ho rfl hf ?_))
    dsimp only
    rw [show byScan (.bool true) (#[] : Array (Int × Value)) = true by decide +kernel]
    simp only [↓reduceIte]
    unfold setAddByScan
    refine wpAny_bind ?_
    refine wpAny_bind (wpAny_rule ?_)
    refine wpAny_bind (m := setScan D (.bool true) 1 true #[]) (wpAny_of_eq (a := ScanMet.absent) rfl ?_)
    dsimp only
    rw [layNew_true]
    dsimp only
    refine wpAny_bind (wpAny_of_eq (a := ()) rfl ?_)
    rw [if_pos (show (T1' (ledOf w)).plain = true from rfl)]
    refine wpAny_bind (wpAny_of_eq (a := true) rfl ?_)
    simp only [↓reduceIte]
    refine wpAny_bind (wpAny_storeSet_of ho rfl ?_ (by decide +kernel))
    rw [show ((!false) && (T1' (ledOf w)).tooFull) = false by cases ledOf w <;> rfl]
    simp only [Bool.false_eq_true, ↓reduceIte]
    refine wpAny_pure (wpAny_pure ?_)
    refine h _ true (Heap.SameBut.update ..) ⟨ep + 1, ?_⟩
    exact Heap.get?_update_self _ ho rfl
  | succ i =>
    have hf : (T1' (ledOf w)).fits (#[((1 : Int), Value.bool true)] : Array (Int × Value)).size = true := rfl
    refine wpAny_holding (wpAny_bind (wpAny_setState_of ho rfl hf ?_))
    dsimp only
    rw [show byScan (.bool true) (#[(1, .bool true)] : Array (Int × Value)) = true by decide +kernel]
    simp only [↓reduceIte]
    unfold setAddByScan
    refine wpAny_bind ?_
    refine wpAny_bind (wpAny_rule ?_)
    refine wpAny_bind (m := setScan D (.bool true) 1 true #[(1, .bool true)]) ?_
    show wpAny _ _ (setScanFrom D (.bool true) 1 true [(1, .bool true)] 0) _ _ _
    unfold setScanFrom
    rw [if_pos (by decide)]
    refine wpAny_bind (wpAny_setEpoch_of ho rfl hf ?_)
    refine wpAny_bind (EqAt.same (A := A) (s := s) (.bool true) prog w _ _ ?_)
    simp only [Bool.and_self, ↓reduceIte]
    refine wpAny_pure ?_
    dsimp only
    refine wpAny_pure (wpAny_pure ?_)
    have e : s = { s with heap := s.heap } := by cases s; rfl
    rw [e]
    exact h s.heap false (Heap.SameBut.refl D s.heap) ⟨ep, ho⟩
theorem call_add_true {D : Addr} {i : Nat} {Q : Value → Shared → Prop} (hS : SetAt s.heap D (ledOf w) i)
    (h : ∀ h' tk, Heap.SameBut D s.heap h' → SetAt h' D (ledOf w) (i + 1) → Q .none { s with heap := h', toks := tk }) : wpAny (model prog w) A (call (.builtin "set.add") [.ref D, .bool true]) Q E s := by
  have hT : s.TypeIs (.ref D) "set" := let ⟨ep, ho⟩ := hS; ⟨_, ho, rfl⟩
  refine wpAny_call_entry F.slot_set_add hT F.entry_set_add ?_ (F.args_set_add_2 _ _)
  unfold Builtin.«set.add» Builtin.Frozenset.oneOther
  simp only [List.isEmpty_nil, bind_assoc]
  unfold Builtin.Frozenset.addrOf setAdd
  refine wpAny_bind (wpAny_pure ?_)
  try dsimp only
  refine wpAny_bind (wpAny_pure ?_)
  try dsimp only
  refine wpAny_bind ?_
  refine wpAny_holding ?_
  refine wpAny_bind (pyHash_true ?_)
  refine add_true (s := { s with toks := s.toks + 1 }) hS fun h' b hsb hS' => ?_
  show wpAny _ _ (ret Value.none) _ _ _
  exact wpAny_pure ⟨_, rfl, h h' _ hsb hS'⟩

/-! ### walking it -/
abbrev IsSetIter (h : Heap) (I D : Addr) (slot i : Int) (ep : Nat) : Prop := h.get? I = some { cls := .type "set_iterator", dict := none, data := .fields #[rawInt slot, rawInt i, .ref D, rawInt 1, rawInt ep], slots := #[] }
theorem entry_set_iter : entryFor table "set.__iter__" = some Builtin.«frozenset.__iter__» :=
  entryFor_alias (id' := "frozenset.__iter__") (by kernel_rfl) rfl (by decide +kernel) (by kernel_rfl)
theorem slot_setiter_next : PySem.Slot "set_iterator" "__next__" "set_iterator.__next__" :=
  .of (owner := "set_iterator") (n := "__next__") (by rw [typeLookup_type, builtinLookup_eq_fast]; kernel_rfl) (by decide +kernel) (by decide +kernel) (by decide +kernel)
    (by first | exact .inl (by decide +kernel) | exact .inr (by decide +kernel)) (by rw [isSubtype_type]; kernel_rfl)
theorem entry_setiter_next : entryFor table "set_iterator.__next__" = some Builtin.«set_iterator.__next__» := entryFor_of_tree (by kernel_rfl)
theorem owner_setiter : Manifest.owners.lookup (String.ofList ['r', 'o', 't', 'a', 'r', 'e', 't', 'i', '_', 't', 'e', 's'].reverse) = some Manifest.sig_set_iterator := by kernel_rfl
theorem args_setiter_next (a : Value) : argsOk "set_iterator.__next__" ⟨[a], []⟩ := by
  unfold argsOk; rw [signature?_of (id := "set_iterator.__next__") (n := ['_', '_', 't', 'x', 'e', 'n', '_', '_']) (o := ['r', 'o', 't', 'a', 'r', 'e', 't', 'i', '_', 't', 'e', 's']) (by kernel_rfl) owner_setiter]; kernel_rfl
end
end Mine

end T_DU

section T_DV
open PySem PySem.W PyProof.Rows PySem.Calls PySem.Spec
open PySem.SeqAt
set_option linter.unusedVariables false
set_option linter.unusedSimpArgs false
set_option maxRecDepth 100000
namespace Mine
section
variable {prog : Program} {w : World} {A : Around} {E : Value → Shared → Prop} {s : Shared}
theorem setState_one {D : Addr} {ep : Nat} {led : Bool} {Q : (Array (Int × Value) × Nat × SetTable) → Shared → Prop} (ho : s.heap.get? D = some (setObj ep led 1)) (h : Q (#[(1, .bool true)], ep, T1' led) s) : wpAny (model prog w) A (setState D) Q E s :=
  wpAny_setState_of ho rfl rfl h
theorem byText {Q : Bool → Shared → Prop} (h : Q (w.params.followText "set-order") s) : wpAny (model prog w) A setsByText Q E s := by
  unfold setsByText
  exact wpAny_bind (wpAny_askSetting (wpAny_pure h))
theorem pyIter_set {D : Addr} {Q : Value → Shared → Prop} (hS : SetAt s.heap D (ledOf w) 1)
    (h : ∀ ep h', s.heap.get? D = some (setObj ep (ledOf w) 1) → Ext s.heap h' → IsSetIter h' s.heap.objs.size D 0 0 ep → Q (.ref s.heap.objs.size) { s with heap := h' }) : wpAny (model prog w) A (pyIter (.ref D)) Q E s := by
  obtain ⟨ep, ho⟩ := hS
  have hT : s.TypeIs (.ref D) "set" := ⟨_, ho, rfl⟩
  refine wpAny_pyIter_slot hT F.slot_set_iter (wpAny_call_entry F.slot_set_iter hT entry_set_iter ?_ (F.args_set_iter_1 _))
  show wpAny _ _ (Builtin.Frozenset.sizeOf D >>= _) _ _ s
  refine wpAny_bind ?_
  unfold Builtin.Frozenset.sizeOf
  refine wpAny_bind (wpAny_setEntries_of ho rfl rfl (wpAny_pure ?_))
  refine wpAny_bind ?_
  unfold setDrawn
  refine wpAny_bind (setState_one ho ?_)
  dsimp only
  refine wpAny_bind (byText ?_)
  refine wpAny_of_eq (a := false) (by cases w.params.followText "set-order" <;> rfl) ?_
  simp only [Bool.false_eq_true, ↓reduceIte]
  refine wpAny_bind (wpAny_pure ?_)
  refine wpAny_bind ?_
  unfold setEpoch
  refine wpAny_bind (setState_one ho (wpAny_pure ?_))
  refine wpAny_bind ?_
  refine wpAny_newObj_type ?_
  refine wpAny_pure ⟨_, rfl, "set_iterator", _, ⟨_, Heap.get?_push_size _ rfl, rfl⟩, slot_setiter_next.lookup, ?_⟩
  exact h ep _ ho push_none (Heap.get?_push_size _ rfl)
theorem below0 : SetTable.below #[1] 0 = 0 := by decide +kernel
theorem below2 : SetTable.below #[1] 2 = 1 := by decide +kernel
theorem pick_one {α : Type} (f : Nat → Nat) (x : α) : pickOrder f #[x] = #[x] := by
  unfold pickOrder
  show pickOrder.go f 1 0 [x] #[] = _
  unfold pickOrder.go
  simp [Nat.mod_one, pickOrder.go]
theorem next_set_item {D I : Addr} {ep : Nat} {Q : Option Value → Shared → Prop} (ho : s.heap.get? D = some (setObj ep (ledOf w) 1)) (hI : IsSetIter s.heap I D 0 0 ep)
    (h : ∀ h' slot, Heap.SameBut I s.heap h' → IsSetIter h' I D slot 1 ep → (w.params.followText "set-order" = false → slot = 2) → Q (some (.bool true)) { s with heap := h' }) : wpAny (model prog w) A (pyNext (.ref I)) Q E s := by
  have hT : s.TypeIs (.ref I) "set_iterator" := ⟨_, hI, rfl⟩
  unfold pyNext
  refine wpAny_bind (wpAny_attempt (wpAny_callSpecial?_slot (name := Str.ofString "__next__") hT slot_setiter_next
    (wpAny_call_entry slot_setiter_next hT entry_setiter_next ?_ (args_setiter_next _))))
  show wpAny _ _ (fieldsOf (.ref I) >>= _) _ _ s
  refine wpAny_bind (wpAny_fieldsOf hI rfl ?_)
  show wpAny _ _ (setEntries D >>= _) _ _ s
  refine wpAny_bind (wpAny_setEntries_of ho rfl rfl ?_)
  rw [if_neg (by decide)]
  refine wpAny_bind (m := setNext D 0 0 ep) ?_
  unfold setNext
  refine wpAny_bind (setState_one ho ?_)
  dsimp only
  refine wpAny_bind (byText ?_)
  cases hb : w.params.followText "set-order" with
  | true =>
    simp only [↓reduceIte]
    rw [if_neg (by simp)]
    refine wpAny_bind ?_
    unfold setWalk
    refine wpAny_bind (setState_one ho ?_)
    dsimp only
    refine wpAny_bind (byText ?_)
    rw [hb]
    simp only [↓reduceIte]
    refine wpAny_bind (wpAny_askSetting (wpAny_pure ?_))
    rw [pick_one]
    refine wpAny_pure ?_
    refine wpAny_bind (wpAny_setField_rec hI (by simp) fun h₁ hI₁ hs₁ => ?_)
    refine wpAny_bind (wpAny_setField_rec hI₁ (by simp) fun h₂ hI₂ hs₂ => ?_)
    exact wpAny_pure ⟨_, rfl, wpAny_pure (h h₂ 0 (hs₁.trans hs₂) (by simpa using hI₂) (fun e => by rw [hb] at e; cases e))⟩
  | false =>
    have hled : ledOf w = true := by unfold ledOf; rw [hb]; rfl
    simp only [Bool.false_eq_true, ↓reduceIte]
    rw [hled]
    refine wpAny_ite_split (fun hd => absurd hd (by decide)) (fun _ => ?_)
    refine wpAny_bind (wpAny_of_eq (a := ()) rfl ?_)
    show wpAny _ _ (pure (match (#[((1 : Int), Value.bool true)] : Array (Int × Value))[SetTable.below #[1] 0]?, (#[1] : Array Nat)[SetTable.below #[1] 0]? with | some (_, x), some j => some (x, j + 1) | _, _ => none)) _ _ _
    rw [below0]
    refine wpAny_pure ?_
    refine wpAny_bind (wpAny_setField_rec hI (by simp) fun h₁ hI₁ hs₁ => ?_)
    refine wpAny_bind (wpAny_setField_rec hI₁ (by simp) fun h₂ hI₂ hs₂ => ?_)
    exact wpAny_pure ⟨_, rfl, wpAny_pure (h h₂ 2 (hs₁.trans hs₂) (by simpa using hI₂) (fun _ => rfl))⟩
theorem next_set_end {D I : Addr} {ep : Nat} {slot : Int} {Q : Option Value → Shared → Prop} (hh : A.handled = none) (ho : s.heap.get? D = some (setObj ep (ledOf w) 1)) (hI : IsSetIter s.heap I D slot 1 ep) (hslot : w.params.followText "set-order" = false → slot = 2)
    (h : ∀ h', (∀ b o, b ≠ I → s.heap.get? b = some o → h'.get? b = some o) → Q none { s with heap := h' }) : wpAny (model prog w) A (pyNext (.ref I)) Q E s := by
  have hT : s.TypeIs (.ref I) "set_iterator" := ⟨_, hI, rfl⟩
  unfold pyNext
  refine wpAny_bind (wpAny_attempt (wpAny_callSpecial?_slot (name := Str.ofString "__next__") hT slot_setiter_next
    (wpAny_call_entry slot_setiter_next hT entry_setiter_next ?_ (args_setiter_next _))))
  show wpAny _ _ (fieldsOf (.ref I) >>= _) _ _ s
  refine wpAny_bind (wpAny_fieldsOf hI rfl ?_)
  show wpAny _ _ (setEntries D >>= _) _ _ s
  refine wpAny_bind (wpAny_setEntries_of ho rfl rfl ?_)
  rw [if_neg (by decide)]
  have fin : ∀ (Q' : Value → Shared → Prop) (E' : Value → Shared → Prop), (∀ h' e, (∀ b o, b ≠ I → s.heap.get? b = some o → h'.get? b = some o) → (∃ o, h'.get? e = some o ∧ o.cls = .type "StopIteration") → E' (.ref e) { s with heap := h' }) →
      wpAny (model prog w) A.in1 (do setField (.ref I) 2 .none; raiseNew (← newExc (.type "StopIteration") []) : Sem Fin) (fun fin s' => ∃ v, fin = .done (.ret v) ∧ Q' v s') E' s := by
    intro Q' E' hE
    refine wpAny_bind (wpAny_setField_rec hI (by simp) fun h₁ hI₁ hs₁ => ?_)
    show wpAny _ _ (newExc (.type "StopIteration") [] >>= _) _ _ _
    refine wpAny_bind ?_
    simp only [newExc, newTuple]
    refine wpAny_bind (wpAny_newObj_type ?_ (by size_fits))
    refine wpAny_bind (m := firstArgMember _ _) (wpAny_of_eq (a := Value.none) (by first | rfl | (simp only [firstArgMember]; rfl)) ?_)
    refine wpAny_newObj_type ?_ (by size_fits)
    simp only [raiseNew]
    refine wpAny_bind (wpAny_handled ?_)
    rw [show A.in1.handled = none from hh]
    refine wpAny_bind (wpAny_pure (wpAny_throw ?_))
    exact hE _ _ (fun b o hb e => push_none _ _ (push_none _ _ ((hs₁.2 b hb).trans e))) ⟨_, Heap.get?_push_size _ rfl, rfl⟩
  refine wpAny_bind (m := setNext D _ 1 ep) ?_
  unfold setNext
  refine wpAny_bind (setState_one ho ?_)
  dsimp only
  refine wpAny_bind (byText ?_)
  cases hb : w.params.followText "set-order" with
  | true =>
    simp only [↓reduceIte]
    rw [if_neg (by simp)]
    refine wpAny_bind ?_
    unfold setWalk
    refine wpAny_bind (setState_one ho ?_)
    dsimp only
    refine wpAny_bind (byText ?_)
    rw [hb]
    simp only [↓reduceIte]
    refine wpAny_bind (wpAny_askSetting (wpAny_pure ?_))
    rw [pick_one]
    refine wpAny_pure ?_
    refine fin _ _ fun h' e hk he => ?_
    obtain ⟨o, ho, hc⟩ := he
    refine wpAny_bind (wpAny_isInstance (T := "StopIteration") (b := true) ⟨o, ho, hc⟩ isSubtype_stop ?_)
    exact wpAny_pure (h h' hk)
  | false =>
    have hled : ledOf w = true := by unfold ledOf; rw [hb]; rfl
    have hsl := hslot hb
    subst hsl
    simp only [Bool.false_eq_true, ↓reduceIte]
    rw [hled]
    refine wpAny_ite_split (fun hd => absurd hd (by decide)) (fun _ => ?_)
    refine wpAny_bind (wpAny_of_eq (a := ()) rfl ?_)
    show wpAny _ _ (pure (match (#[((1 : Int), Value.bool true)] : Array (Int × Value))[SetTable.below #[1] 2]?, (#[1] : Array Nat)[SetTable.below #[1] 2]? with | some (_, x), some j => some (x, j + 1) | _, _ => none)) _ _ _
    rw [below2]
    refine wpAny_pure ?_
    refine fin _ _ fun h' e hk he => ?_
    obtain ⟨o, ho, hc⟩ := he
    refine wpAny_bind (wpAny_isInstance (T := "StopIteration") (b := true) ⟨o, ho, hc⟩ isSubtype_stop ?_)
    exact wpAny_pure (h h' hk)
theorem unpack_set {D : Addr} {Q : List Value → Shared → Prop} (hh : A.handled = none) (hS : SetAt s.heap D (ledOf w) 1) (h : ∀ h', Ext s.heap h' → Q [.bool true] { s with heap := h' }) : wpAny (model prog w) A (unpackItems (.ref D) 1 none) Q E s := by
  have hT : s.TypeIs (.ref D) "set" := let ⟨ep, ho⟩ := hS; ⟨_, ho, rfl⟩
  unfold unpackItems
  refine wpAny_bind ?_
  · unfold notIterableAtAll
    refine wpAny_bind (wpAny_specialOf hT F.slot_set_iter.lookup ?_)
    refine wpAny_pure ?_
    simp only [Bool.false_eq_true, if_false]
    refine wpAny_bind (wpAny_holding (pyIter_set hS fun ep h₁ ho k₁ hI => ?_))
    have ne : ∀ {b : Addr} {o : Obj}, s.heap.get? b = some o → b ≠ s.heap.objs.size := fun e => Nat.ne_of_lt (Heap.lt_size e)
    refine wpAny_bind (wpAny_holding ?_)
    unfold draw
    refine wpAny_bind (next_set_item (k₁ _ _ ho) hI fun h₂ slot hs₂ hI₂ hsl => ?_)
    refine wpAny_bind (wpAny_holding ?_)
    unfold draw
    refine wpAny_pure (wpAny_pure ?_)
    rw [if_neg (by decide)]
    have ho₂ := hs₂.extBut _ _ (ne ho) (k₁ _ _ ho)
    refine wpAny_bind (wpAny_holding (next_set_end hh ho₂ hI₂ hsl fun h₃ hk₃ => ?_))
    simp only [Option.isSome_none, Bool.false_eq_true, if_false]
    exact wpAny_pure (h h₃ fun b o e => hk₃ b o (ne e) (hs₂.extBut _ _ (ne e) (k₁ _ _ e)))
end
end Mine

end T_DV

section T_DW
open PySem PySem.W PyProof.Rows PySem.Calls PySem.Spec
open PySem.SeqAt
set_option linter.unusedVariables false
set_option linter.unusedSimpArgs false
set_option maxRecDepth 100000
namespace Mine
section
variable {prog : Program} {w : World} {A : Around} {E : Value → Shared → Prop} {R : Result → Shared → Prop} {s : Shared}
theorem compTurn_set (elt target iter : Expr) (scope : Scope) (pos : Pos) (it acc : Value) (env : Env) :
    compTurn (.SetComp elt [⟨target, iter, [], 0⟩] scope pos) 0 it acc env = (standAt iter.pos >>= fun _ => pyNext it >>= fun r => match r with
      | none => pure (.done .next)
      | some v => letOwnedTupleGo target it v >>= fun _ => assign target env v >>= fun _ =>
        (eval elt env >>= fun x => standAt elt.pos >>= fun _ => call (.builtin "set.add") [acc, x] >>= fun _ => pure ()) >>= fun _ =>
          again (.compLoop (.SetComp elt [⟨target, iter, [], 0⟩] scope pos) 0 it acc env)) := by rfl
theorem compLoop_set {elt target iter : Expr} {scope : Scope} {pos : Pos} {it acc : Value} {env : Env} (I : Nat → Shared → Prop)
    (turn : ∀ n s, I n s → wpAny (model prog w) A (pyNext it) (fun r s₁ => match r with
      | none => R (.ok .next) s₁
      | some v => wpAny (model prog w) A (assign target env v) (fun _ s₂ => wpAny (model prog w) A (eval elt env) (fun x s₃ =>
          wpAny (model prog w) A (call (.builtin "set.add") [acc, x]) (fun _ s₄ => ∃ m, m < n ∧ I m s₄) (notedBy (model prog w) A env fun e s' => R (.error e) s') s₃)
          (notedBy (model prog w) A env fun e s' => R (.error e) s') s₂) (notedBy (model prog w) A env fun e s' => R (.error e) s') s₁) (notedBy (model prog w) A env fun e s' => R (.error e) s') s)
    (n : Nat) (h : I n s) (ht : ∀ v, letOwnedTupleGo target it v = pure () := by intro _; rfl) :
    codeAny (model prog w) A (.compLoop (.SetComp elt [⟨target, iter, [], 0⟩] scope pos) 0 it acc env) R s := by
  refine codeAny_loop rfl I (fun n s hI => ?_) n h
  show wpAny _ _ ((compTurn (.SetComp elt [⟨target, iter, [], 0⟩] scope pos) 0 it acc env).onRaise (fun x => do noteFrame x env; theTreesLotGoes x)) _ _ s
  refine wpAny_noted ?_
  rw [compTurn_set]
  refine wpAny_bind (wpAny_standAt (wpAny_bind (wpAny_mono (turn n s hI) (fun r s₁ h₁ => ?_) fun _ _ h' => h')))
  cases r with
  | none => exact wpAny_pure h₁
  | some v =>
    refine wpAny_bind (wpAny_of_eq (ht v) ?_)
    refine wpAny_bind (wpAny_mono h₁ (fun _ s₂ h₂ => wpAny_bind (wpAny_bind (wpAny_mono h₂ (fun x s₃ h₃ => wpAny_bind (wpAny_standAt (wpAny_bind (wpAny_mono h₃
      (fun _ s₄ h₄ => wpAny_pure (wpAny_pure ⟨rfl, h₄⟩)) fun _ _ h' => h')))) fun _ _ h' => h'))) fun _ _ h' => h')
theorem compStart_set {elt target iter : Expr} {ifs : List Expr} {rest : List Comprehension} {scope : Scope} {pos : Pos} {it acc : Value} {env : Env}
    (h0 : codeAny (model prog w) A (.compLoop (.SetComp elt (⟨target, iter, ifs, 0⟩ :: rest) scope pos) 0 it acc env) R s)
    (h : wpAny (model prog w) A (pyIter it) (fun it' s' => codeAny (model prog w) A (.compLoop (.SetComp elt (⟨target, iter, ifs, 0⟩ :: rest) scope pos) 0 it' acc env) R s')
      (notedBy (model prog w) A env fun x s' => R (.error x) s') s) :
    codeAny (model prog w) A (.compStart (.SetComp elt (⟨target, iter, ifs, 0⟩ :: rest) scope pos) 0 it acc env) R s := by
  refine codeAny_of_tree ?_
  show wpAny _ _ ((compStart (.SetComp elt (⟨target, iter, ifs, 0⟩ :: rest) scope pos) 0 it acc env).onRaise (fun x => do noteFrame x env; standAt theWindowsPlace)) _ _ s
  refine wpAny_notedAt ?_
  unfold compStart
  show wpAny _ _ (ask >>= _) _ _ s
  refine wpAny_bind (wpAny_askSetting (wpAny_ite ?_))
  split
  · first
      | exact wpAny_bind (wpAny_pure (wpAny_pure (And.intro rfl h0)))
      | exact wpAny_pure (And.intro rfl h0)
  · first
      | exact wpAny_bind (wpAny_rule (wpAny_bind (wpAny_standAt (wpAny_bind (wpAny_mono h (fun it' s' h' => wpAny_pure (And.intro rfl h')) fun _ _ x => x)))))
      | (refine wpAny_bind (wpAny_rule ?_); show wpAny _ _ (standAt iter.pos >>= _) _ _ s; exact wpAny_bind (wpAny_standAt (wpAny_bind (wpAny_mono h (fun it' s' h' => wpAny_pure (And.intro rfl h')) fun _ _ x => x))))
end
section
variable {prog : Program} {w : World} {K : Frag} {n : Nat} {env : Env} {h₀ : Heap} {ex : Addr → Prop} {vs vs' : Vars} {S S' : Heap → Prop} {Q : Flow → Heap → Prop} {rest : List Stmt}
theorem set_core {elt iter : Expr} {x : Str} {px : Pos} {scope : Scope} {cpos pos : Pos} {xs : List AV} {strict : Prop} {capt : Vars} {A : Around} {s : Shared} {QQ : Value → Shared → Prop} {E : Value → Shared → Prop}
    (R : Room n A) (S : StE K env ex vs s.heap)
    (hfc : ∀ y, (y, NameKind.free) ∈ scope.names → ∃ c, env.cells.lookup y = some c)
    (hcell : ∀ y ∈ scope.names, y.2 ≠ .cell) (hkind : scope.kind = .function) (hnames : ∀ y ∈ scope.names, y.2 = .local → scope.names.lookup y.1 = some .local) (hx : scope.names.lookup x = some .local)
    (hit : EvI prog w K n env ex vs iter strict xs) (hsz : xs.length ≤ sizeLine) (hc : Capt env scope vs capt)
    (he : ∀ cl C D (i : Nat) a, xs[i]? = some a → Kinds (compEnvC scope cl C env) (relabel scope env).names → (∀ y, (y, NameKind.free) ∈ scope.names → cl.lookup y = env.cells.lookup y) → Ev prog w K n (compEnvC scope cl C env) (Add ex D) ((x, .val a) :: capt) elt (.bool true))
    (hs : ∀ x, foldedSetIterable iter env x = pure x)
    (hQ : ∀ C D h' tk, s.heap.get? C = none → s.heap.get? D = none → C ≠ D → (∃ m, h'.Ns C m) → Ext s.heap h' → SetAt h' D (ledOf w) xs.length → compPost (model prog w) A E none QQ (.ref D) C (.ok .next) { s with heap := h', toks := tk }) :
    wpAny (model prog w) A (comprehension (.SetComp elt [⟨.Name x px, iter, [], 0⟩] scope pos) scope env cpos (newSet (.type "set")) false (eval iter env) none) QQ E s := by
  obtain ⟨cl, hclos, hcl⟩ := closure_ex (env := env) (scope := scope) hfc
  refine wpAny_comprehension_free (use := none) rfl hs hclos hkind hnames (hit A R s _ _ S fun xv s₁ g hpy => ?_)
  obtain ⟨⟨h₁, tk₁, rfl⟩, k₁⟩ := g
  have S₁ : StE K env ex vs h₁ := ⟨S.fn, S.gl, S.bl, S.base.up k₁, S.there.up k₁, S.holds.up k₁⟩
  refine hpy _ _ fun I h₂ tk₂ k₂ hI0 ⟨fp, P, St, Φ, W, st0, hf, hfp, ph0, hΦ, hxs⟩ => ?_
  have S₂ : StE K env ex vs h₂ := ⟨S₁.fn, S₁.gl, S₁.bl, S₁.base.up k₂, S₁.there.up k₂, S₁.holds.up k₂⟩
  refine newSet_at fun H2 kH2 sizeH2 setH2 => wpAny_newFunctionEnv hcell (by intro y hy; simp at hy) (fun h₃ hns₃ hsb₃ => ?_) hkind
  dsimp only at hns₃ hsb₃ ⊢
  dsimp only at kH2 sizeH2 setH2
  have hC : H2.objs.size = h₂.objs.size + 1 := sizeH2
  have hDC : h₂.objs.size ≠ H2.objs.size := by rw [hC]; exact Nat.ne_of_lt (Nat.lt_succ_self _)
  have below : ∀ b, b < h₂.objs.size → b ≠ H2.objs.size ∧ b ≠ h₂.objs.size := fun b hb => ⟨by rw [hC]; exact Nat.ne_of_lt (Nat.lt_succ_of_lt hb), Nat.ne_of_lt hb⟩
  have hfpl : ∀ b ∈ fp, b < h₂.objs.size := fun b hb => by
    rcases hfp b hb with e | ⟨o, items, k, ho, _⟩
    · subst e; obtain ⟨o, fs, ho, _⟩ := hf 0 _ st0; exact Heap.lt_size ho
    · exact Heap.lt_size ho
  have old : Ext h₂ h₃ := fun b o e => hsb₃.extBut b o (below b (Heap.lt_size e)).1 (Heap.get?_push_of_some _ (kH2 _ _ e))
  have hacc : SetAt h₃ h₂.objs.size (ledOf w) 0 := setH2.up fun o e => hsb₃.extBut _ _ hDC (Heap.get?_push_of_some _ e)
  have fresh : ∀ a, h₂.objs.size ≤ a → ∀ {h : Heap}, Ext h h₂ → h.get? a = none := fun a ha h k => by
    cases e : h.get? a with
    | none => rfl
    | some o' => exact absurd (Heap.lt_size (k _ _ e)) (Nat.not_lt.mpr ha)
  have hD1 := fresh h₂.objs.size (Nat.le_refl _) k₂
  have hD0 := fresh h₂.objs.size (Nat.le_refl _) fun b o e => k₂ b o (k₁ b o e)
  have hC1 := fresh H2.objs.size (by rw [hC]; exact Nat.le_succ _) k₂
  have hC0 := fresh H2.objs.size (by rw [hC]; exact Nat.le_succ _) fun b o e => k₂ b o (k₁ b o e)
  have st3 : St 0 h₃ := W.frame _ _ _ st0 fun b _ o e => old b o e
  have ph3 : Φ (Add ex h₂.objs.size) h₃ := hΦ _ _ _ _ ph0 (Ext.seq old) fun b o hb e q => q.elim hb fun q => by rw [q, no_next] at e; cases e
  have hCk : Kinds (compEnvC scope cl H2.objs.size env) (relabel scope env).names := compKinds hkind rfl
  generalize hDg : h₂.objs.size = D at *
  generalize hCg : H2.objs.size = C at *
  have hDf : D ∉ fp := fun hm => Nat.lt_irrefl _ (hfpl _ hm)
  have hCf : C ∉ fp := fun hm => by have := hfpl _ hm; rw [hC] at this; exact Nat.lt_irrefl _ (Nat.lt_of_succ_lt this)
  have hIf : ∀ i h, St i h → I ≠ C ∧ I ≠ D := fun i h st => by
    have : I < D := by obtain ⟨o, fs, ho, _⟩ := hf 0 _ st0; rw [← hDg]; exact Heap.lt_size ho
    exact ⟨Nat.ne_of_lt (by rw [hC]; exact Nat.lt_succ_of_lt this), Nat.ne_of_lt this⟩
  have loop : ∀ s₃ : Shared, s₃ = { s with heap := h₃, toks := tk₂ + ([] : List (Str × Value)).length } →
      codeAny (model prog w) A (.compLoop (.SetComp elt [⟨.Name x px, iter, [], 0⟩] scope pos) 0 (.ref I) (.ref D) (compEnvC scope cl C env)) (compPost (model prog w) A E none QQ (.ref D) C) s₃ := by
    rintro s₃ rfl
    refine compLoop_set (env := compEnvC scope cl C env)
      (fun k s' => ∃ i h' tk m', s' = { s with heap := h', toks := tk } ∧ i ≤ xs.length ∧ k = xs.length + 1 - i ∧ St i h' ∧ Φ (Add ex D) h' ∧ h'.Ns C m' ∧ Ext h₁ h' ∧ SetAt h' D (ledOf w) i) ?_ (xs.length + 1)
      ⟨0, h₃, _, _, rfl, Nat.zero_le _, rfl, st3, ph3, hns₃, fun b o e => old b o (k₂ b o e), hacc⟩
    rintro k s' ⟨i, H, tk, m', rfl, hile, rfl, st, ph, hn, kH, pl⟩
    obtain ⟨oI, fsI, hoI, hdI⟩ := hf i H st
    have sk : ∀ {h' : Heap}, (∀ b o, b ∉ [I] → H.get? b = some o → h'.get? b = some o) → SeqKept (Add ex D) H h' := fun k b o items nn _ e hd => k b o (by
      intro q; rw [List.mem_singleton.mp q, hoI] at e; cases e; rw [hdI] at hd; cases hd) e
    have eI : ∀ {h' : Heap}, (∀ b o, b ∉ [I] → H.get? b = some o → h'.get? b = some o) → Ext h₁ h' := fun k b o e => k b o (by
      intro q; rw [List.mem_singleton.mp q, hI0] at e; cases e) (kH b o e)
    have CnI : C ∉ [I] := fun q => (hIf i H st).1 (List.mem_singleton.mp q).symm
    have DnI : D ∉ [I] := fun q => (hIf i H st).2 (List.mem_singleton.mp q).symm
    by_cases hlt : i < xs.length
    · refine W.item i _ _ _ hlt st fun v h₄ tk₄ hPv st₄ k₄ => ?_
      refine wpAny_assign_Name (wpAny_storeName_local (env := compEnvC scope cl C env) (lookup_relabel_local hx) (hn.at' fun o e => k₄ _ o CnI e) (fun h₅ hn₅ hs₅ => ?_) (by simp [compEnvC, relabel, hkind]))
      have st₅ : St (i + 1) h₅ := W.frame _ _ _ st₄ fun b hb o e => hs₅.extBut b o (fun h => hCf (by change b = C at h; exact h ▸ hb)) e
      have sk5 : SeqKept (Add ex D) h₄ h₅ := fun b o items nn _ e hd => hs₅.extBut b o (by
        intro q
        obtain ⟨o', es, ep, ho', hd', _⟩ := hn.at' (h' := h₄) fun o e => k₄ _ o CnI e
        rw [q] at e
        change h₄.get? C = some o at e
        rw [ho'] at e; cases e; rw [hd] at hd'; cases hd') e
      have ph₅ : Φ (Add ex D) h₅ := hΦ _ _ _ _ (hΦ _ _ _ _ ph (sk k₄) fun _ _ n _ => n) sk5 fun _ _ n _ => n
      have k15 : Ext h₁ h₅ := fun b o e => hs₅.extBut b o (by intro q; rw [q] at e; change h₁.get? C = some o at e; rw [hC1] at e; cases e) (eI k₄ b o e)
      have pl₅ : SetAt h₅ D (ledOf w) i := pl.up fun o e => hs₅.extBut _ _ hDC (k₄ _ _ DnI e)
      obtain ⟨a, ha, qv⟩ := hxs _ i v h₅ hlt hPv ph₅
      obtain ⟨nD, hoD⟩ := id pl₅
      have S₅ : StE K (compEnvC scope cl C env) (Add ex D) ((x, .val a) :: capt) h₅ := comp_state S₁ hkind hx hcl hc k15 hD1 ⟨_, hoD⟩ hn₅ (by simp) qv
      have hev : Ev prog w K n (compEnvC scope cl C env) (Add ex D) ((x, .val a) :: capt) elt (.bool true) := he cl C D i a ha hCk hcl
      refine hev A R { s with heap := h₅, toks := _ } _ _ S₅ fun y s₇ g₇ q₇ => ?_
      obtain ⟨⟨h₇, tk₇, rfl⟩, k₇⟩ := g₇
      dsimp only at k₇ q₇
      cases q₇
      refine call_add_true (pl₅.up fun o e => k₇ _ o e) fun h₈ tk₈ hs₈ pl₈ => ?_
      have sk8 : SeqKept (Add ex D) h₇ h₈ := fun b o items nn hb e _ => hs₈.extBut b o (fun q => hb (.inr q)) e
      have hn₈ := (hn₅.keeps k₇).sameBut hs₈ (Ne.symm hDC)
      refine ⟨xs.length + 1 - (i + 1), by omega, i + 1, h₈, tk₈, _, rfl, hlt, rfl, ?_, ?_, hn₈, ?_, pl₈⟩
      · exact W.frame _ _ _ st₅ fun b hb o e => hs₈.extBut b o (fun h => hDf (h ▸ hb)) (k₇ b o e)
      · exact hΦ _ _ _ _ (hΦ _ _ _ _ ph₅ (Ext.seq k₇) fun _ _ n _ => n) sk8 fun _ _ n _ => n
      · exact fun b o e => hs₈.extBut b o (by intro q; rw [q, hD1] at e; cases e) (k₇ b o (k15 b o e))
    · have hin : i = xs.length := by omega
      subst hin
      refine W.done _ _ _ st fun h₄ tk₄ k₄ => ?_
      exact hQ C D h₄ tk₄ hC0 hD0 (Ne.symm hDC) ⟨_, hn.at' fun o e => k₄ _ o CnI e⟩ (fun b o e => eI k₄ b o (k₁ b o e)) (pl.up fun o e => k₄ _ _ DnI e)
  have := compStart_set (loop _ rfl) (W.self 0 _ _ _ st3 (loop _ rfl))
  exact this


/-- y, = {.. for x in ..}, each item True -/
theorem Ex.setComp1 {elt iter : Expr} {x y : Str} {px py tp spos : Pos} {k : Nat} {scope : Scope} {pos : Pos} {xs : List AV} {strict : Prop} {capt : Vars}
    (hfc : ∀ y, (y, NameKind.free) ∈ scope.names → ∃ c, env.cells.lookup y = some c)
    (hcell : ∀ y ∈ scope.names, y.2 ≠ .cell) (hkind : scope.kind = .function) (hnames : ∀ y ∈ scope.names, y.2 = .local → scope.names.lookup y.1 = some .local) (hx : scope.names.lookup x = some .local)
    (hit : EvI prog w K n env ex vs iter strict xs) (hsz : xs.length ≤ sizeLine) (hne : xs ≠ []) (hc : Capt env scope vs capt)
    (he : ∀ cl C D (i : Nat) a, xs[i]? = some a → Kinds (compEnvC scope cl C env) (relabel scope env).names → (∀ y, (y, NameKind.free) ∈ scope.names → cl.lookup y = env.cells.lookup y) → Ev prog w K n (compEnvC scope cl C env) (Add ex D) ((x, .val a) :: capt) elt (.bool true))
    (u : Upd y (.val (.bool true)) vs vs') (hr : Ex prog w n env ex (StS K env h₀ ex vs') rest Q)
    (hs : ∀ x, foldedSetIterable iter env x = pure x := by intro _; rfl)
    (hw : swappedStores [.Tuple [.Name y py] k tp] (.SetComp elt [⟨.Name x px, iter, [], 0⟩] scope pos) env = pure none)
    (hss : swapsWithSole [.Tuple [.Name y py] k tp] (.SetComp elt [⟨.Name x px, iter, [], 0⟩] scope pos) spos.line env = pure false := by rfl) :
    Ex prog w n env ex (StS K env h₀ ex vs) (.Assign [.Tuple [.Name y py] k tp] (.SetComp elt [⟨.Name x px, iter, [], 0⟩] scope pos) spos :: rest) Q := by
  intro A R s E hS
  refine wpAny_execs_cons (Assign_Tuple ?_ hss hw)
  show wpAny _ A (comprehension (.SetComp elt [⟨.Name x px, iter, [], 0⟩] scope pos) scope env _ (newSet (.type "set")) false (eval iter env)) _ _ s
  refine set_core R hS.e hfc hcell hkind hnames hx hit hsz hc he hs fun C D h' tk hC hD hCD hn k₁ hset => ?_
  obtain ⟨m, hn⟩ := hn
  refine ⟨m, hn, fun h'' hs'' => ?_⟩
  have k2 : Ext s.heap h'' := fun b o e => hs''.extBut b o (fun q => by rw [q, hC] at e; cases e) (k₁ b o e)
  have hset2 : SetAt h'' D (ledOf w) xs.length := hset.up fun o e => hs''.extBut D o (Ne.symm hCD) e
  obtain ⟨j, hj⟩ : ∃ j, xs.length = j + 1 := ⟨xs.length - 1, by have := List.length_pos_iff.mpr hne; omega⟩
  rw [hj] at hset2
  show wpAny _ A (PySem.assign (Expr.Tuple [Expr.Name y py] k tp) env (.ref D)) _ _ _
  rw [arm_assign_Tuple]
  refine wpAny_bind (wpAny_standAt ?_)
  unfold PySem.unpack
  refine wpAny_bind (wpAny_holding (unpack_set R.1 hset2.le1 fun h₃ k₃ => ?_))
  refine storesT (es := [.Name y py]) (ps := [(y, .bool true)]) (.cons .nil) (s := { s with heap := h₃, toks := tk }) (.cons u .nil) (.cons (.bool _) .nil) ((hS.up k2).up k₃) fun h₄ tk₄ S₄ k₄ => ?_
  exact ex_then R hr S₄ (((Kept.of_ext k2).trans (Kept.of_ext k₃)).trans k₄)
end
end Mine

end T_DW

section T_DX
open PySem PySem.W PyProof.Rows PySem.Calls PySem.Spec
open PySem.SeqAt
set_option linter.unusedVariables false
set_option linter.unusedSimpArgs false
set_option maxRecDepth 100000
namespace Mine
section
variable {prog : Program} {w : World} {K : Frag} {n : Nat} {env : Env} {h₀ : Heap} {ex : Addr → Prop} {vs vs' : Vars} {S S' : Heap → Prop} {Q : Flow → Heap → Prop} {rest : List Stmt}
theorem isTup_of {h : Heap} {a : Addr} {items : Array Value} (x : h.IsTuple a items) : IsTup h a items := let ⟨o, ho, hc, n, hd⟩ := x; ⟨o, ho, hc, n, hd⟩
theorem Ev.itemT {v sl : Expr} {p : Pos} {xs : List AV} {i : Int} {j : Nat} {a : AV} (hv : Ev prog w K n env ex vs v (.tup xs)) (hi : Ev prog w K n env ex vs sl (.int i)) (hj : seqIndex? i xs.length = some j) (ha : xs[j]? = some a) (hfit : -(2 ^ 63) ≤ i ∧ i < 2 ^ 63)
    (hs : ∀ l u, subscripted sl false (.ref l) (.int i u) = operate [.ref l, .int i u] (getItem (.ref l) (.int i u)) := by intro _ _; with_unfolding_all rfl) : Ev prog w K n env ex vs (.Subscript v sl p) a := by
  intro A R s Q E S h
  refine Subscript_ (hv A R s _ _ S fun l s₁ g₁ q₁ => hi A R s₁ _ _ (S.up g₁) fun k s₂ g₂ q₂ => ?_)
  cases q₂ with
  | int _ t2 =>
  cases q₁ with
  | @tup l us _ hex il qs =>
  have il₂ : s₂.heap.IsTuple l us.toArray := IsTuple.goes il fun o e => g₂.ext _ o e
  obtain ⟨u, hu, hq⟩ := (qs.up g₂.ext).get ha
  have hl := qs.length
  refine tail_any (isTup_of il₂).typeIs slot_tuple_getitem.lookup (PyProof.Rows.getItem_tuple (isTup_of il₂) hfit.1 hfit.2 (j := j) (by rw [List.size_toArray, hl]; exact hj) (by simpa using hu) (h _ _ (g₁.trans g₂) hq)) (hs _ _)
/-- truth of a tuple -/
theorem Te.tup {e : Expr} {xs : List AV} (he : Ev prog w K n env ex vs e (.tup xs)) (hsz : xs.length ≤ sizeLine) (hw : isTrue e env (eval e env) = (do let v ← eval e env; standAt e.pos; holding [v] (truthy v)) := by rfl) : Te prog w K n env ex vs e (decide (xs ≠ [])) := by
  intro A R s Q E S h
  refine isTrue_plain (he A R s _ _ S fun v s₁ g₁ q₁ => ?_) hw
  cases q₁ with
  | @tup l us _ hex il qs =>
  have hl := qs.length
  have hb := sizeLine_eq
  refine truthy_tuple (isTup_of il) (by rw [List.size_toArray]; omega) ?_
  have e : (!us.toArray.isEmpty) = decide (xs ≠ []) := by
    cases us with
    | nil => have : xs = [] := List.length_eq_zero_iff.mp (by simpa using hl.symm); subst this; rfl
    | cons u us => cases xs with
      | nil => simp at hl
      | cons x xs => simp
  rw [e]
  exact h _ (g₁.trans (Grown.tok _ _))
theorem Ev.minL {p pos : Pos} {e : Expr} {xs ys : List Str} (hR : 1 ≤ n) (hn : nsIn K mainGlobals "min" = some none) (hx : env.kindOf "min" = some .globalImplicit) (he : Ev prog w K n env ex vs e (.list [.list (xs.map .str), .list (ys.map .str)])) (h1 : starEach [e] env = (false, eval e env) :: starEach [] env) :
    Ev prog w K n env ex vs (.Call (.Name "min" p) [e] [] pos) (.list ((if sLt ys xs then ys else xs).map .str)) :=
  Ev.bcall hn (by decide +kernel : bootBuiltins "min" = some (.builtin "min")) hx (EvS.cons he EvS.nil h1) (fun A R s us Q E T q h => by
    cases q with
    | cons a b =>
    cases b
    cases a with
    | list hex il q =>
    cases q with
    | cons q1 q =>
    cases q with
    | cons q2 q =>
    cases q
    cases q1 with
    | list hex1 il1 qa =>
    cases q2 with
    | list hex2 il2 qb =>
    refine call_min_pair R.1 (by have := R.2.2; omega) il il1 qa il2 qb fun h' tk k => h _ _ (Grown.of k) ?_
    cases hc : sLt ys xs with
    | true => exact .list hex2 (IsList.goes il2 fun o e => k _ o e) (qb.up k)
    | false => exact .list hex1 (IsList.goes il1 fun o e => k _ o e) (qa.up k)) h1 rfl
theorem Ev.maxL {p pos : Pos} {e : Expr} {xs ys : List Str} (hR : 1 ≤ n) (hn : nsIn K mainGlobals "max" = some none) (hx : env.kindOf "max" = some .globalImplicit) (he : Ev prog w K n env ex vs e (.list [.list (xs.map .str), .list (ys.map .str)])) (h1 : starEach [e] env = (false, eval e env) :: starEach [] env) :
    Ev prog w K n env ex vs (.Call (.Name "max" p) [e] [] pos) (.list ((if sLt xs ys then ys else xs).map .str)) :=
  Ev.bcall hn (by decide +kernel : bootBuiltins "max" = some (.builtin "max")) hx (EvS.cons he EvS.nil h1) (fun A R s us Q E T q h => by
    cases q with
    | cons a b =>
    cases b
    cases a with
    | list hex il q =>
    cases q with
    | cons q1 q =>
    cases q with
    | cons q2 q =>
    cases q
    cases q1 with
    | list hex1 il1 qa =>
    cases q2 with
    | list hex2 il2 qb =>
    refine call_max_pair R.1 (by have := R.2.2; omega) il il1 qa il2 qb fun h' tk k => h _ _ (Grown.of k) ?_
    cases hc : sLt xs ys with
    | true => exact .list hex2 (IsList.goes il2 fun o e => k _ o e) (qb.up k)
    | false => exact .list hex1 (IsList.goes il1 fun o e => k _ o e) (qa.up k)) h1 rfl
theorem Ev.divmod {p pos : Pos} {e f : Expr} {i j : Int} (hn : nsIn K mainGlobals "divmod" = some none) (hx : env.kindOf "divmod" = some .globalImplicit) (he : Ev prog w K n env ex vs e (.int i)) (hf : Ev prog w K n env ex vs f (.int j)) (hj : j ≠ 0) (hp : Builtin.divisionGoesByPylong i j = false)
    (h1 : starEach [e, f] env = (false, eval e env) :: starEach [f] env) (h2 : starEach [f] env = (false, eval f env) :: starEach [] env) (h3 : (backTo pos (starEach [f] env)).any (·.1) = false := by rfl) : Ev prog w K n env ex vs (.Call (.Name "divmod" p) [e, f] [] pos) (.tup [.int (i.fdiv j), .int (i.fmod j)]) :=
  Ev.bcall hn boot_divmod hx (EvS.cons he (EvS.cons hf EvS.nil h2) h1) (fun A R s us Q E T q h => by
    cases q with
    | cons a b =>
      cases a
      cases b with
      | cons c d =>
        cases c; cases d
        refine divmod_int hj (h _ _ ⟨⟨_, _, rfl⟩, push_none⟩ ?_) (.inl hp)
        exact .tup T.next ⟨_, Heap.get?_push_size _ rfl, rfl, 0, rfl⟩ (.cons (.int _ _) (.cons (.int _ _) .nil))) h1 h3
end
end Mine

end T_DX

section T_LC
open PySem PySem.W PyProof.Rows PySem.Calls PySem.Spec
set_option linter.unusedVariables false
set_option linter.unusedSimpArgs false
namespace Mine
/-! ## the longest common head of two lists -/
def lcp {α : Type} [DecidableEq α] : List α → List α → List α
  | x :: xs, y :: ys => if x = y then x :: lcp xs ys else []
  | _, _ => []
theorem lcp_comm {α : Type} [DecidableEq α] : ∀ a b : List α, lcp a b = lcp b a
  | [], [] => rfl
  | [], _ :: _ => rfl
  | _ :: _, [] => rfl
  | x :: a, y :: b => by
    unfold lcp
    by_cases h : x = y
    · rw [if_pos h, if_pos h.symm, lcp_comm a b, h]
    · rw [if_neg h, if_neg (Ne.symm h)]
theorem lcp_self {α : Type} [DecidableEq α] : ∀ a : List α, lcp a a = a
  | [] => rfl
  | x :: a => by unfold lcp; rw [if_pos rfl, lcp_self a]
theorem lcp_stop {α : Type} [DecidableEq α] : ∀ (a b : List α) (i : Nat), a.take i = b.take i → (i < a.length → i < b.length → a[i]? ≠ b[i]?) → (i ≤ a.length) → (i = a.length ∨ i < b.length ∨ i = b.length) → lcp a b = a.take i
  | [], b, i, h, _, hi, _ => by simp at hi; subst hi; simp [lcp]
  | x :: a, [], 0, _, _, _, _ => rfl
  | x :: a, [], i + 1, h, _, _, _ => by simp at h
  | x :: a, y :: b, 0, _, hne, _, _ => by
    have := hne (by simp) (by simp)
    unfold lcp; rw [if_neg (by simpa using this)]; rfl
  | x :: a, y :: b, i + 1, h, hne, hi, hj => by
    simp only [List.take_succ_cons, List.cons.injEq] at h
    unfold lcp
    rw [if_pos h.1, lcp_stop a b i h.2 (fun h1 h2 => by simpa using hne (by simpa using h1) (by simpa using h2)) (by simpa using hi) (by simpa using hj)]
    rfl
theorem lcp_map {α β : Type} [DecidableEq α] [DecidableEq β] (f : α → β) (hf : ∀ x y, f x = f y ↔ x = y) : ∀ a b : List α, lcp (a.map f) (b.map f) = (lcp a b).map f
  | [], _ => rfl
  | _ :: _, [] => rfl
  | x :: a, y :: b => by
    simp only [List.map_cons, lcp]
    by_cases h : x = y
    · rw [if_pos h, if_pos ((hf x y).mpr h), lcp_map f hf a b]; rfl
    · rw [if_neg h, if_neg (fun q => h ((hf x y).mp q))]; rfl
theorem sLt_take : ∀ (a : List Str) (i : Nat), sLt a (a.take i) = false
  | [], i => by simp [sLt]
  | x :: a, 0 => rfl
  | x :: a, i + 1 => by rw [List.take_succ_cons]; unfold sLt; rw [if_pos rfl]; exact sLt_take a i
theorem sLt_asymm : ∀ a b : List Str, sLt a b = true → sLt b a = false
  | [], [], _ => rfl
  | [], _ :: _, _ => rfl
  | _ :: _, [], h => by simp [sLt] at h
  | x :: a, y :: b, h => by
    unfold sLt at h ⊢
    by_cases e : x = y
    · rw [if_pos e] at h; rw [if_pos e.symm]; exact sLt_asymm a b h
    · rw [if_neg e] at h; rw [if_neg (Ne.symm e)]
      have h' := of_decide_eq_true h
      exact decide_eq_false fun q => List.lt_irrefl _ (List.lt_trans h' q)
theorem Str_ext {x y : Str} (h : x.cps.toList = y.cps.toList) : x = y := by
  cases x; cases y; simp only [Str.mk.injEq]; exact Array.toList_inj.mp h
theorem sLt_total : ∀ a b : List Str, sLt a b = false → sLt b a = false → a = b
  | [], [], _, _ => rfl
  | [], _ :: _, h, _ => by simp [sLt] at h
  | _ :: _, [], _, h => by simp [sLt] at h
  | x :: a, y :: b, h, h' => by
    unfold sLt at h h'
    by_cases e : x = y
    · rw [if_pos e] at h; rw [if_pos e.symm] at h'; rw [e, sLt_total a b h h']
    · rw [if_neg e] at h; rw [if_neg (Ne.symm e)] at h'
      exact absurd (Str_ext (List.le_antisymm (of_decide_eq_false h') (of_decide_eq_false h))) e
theorem minmax (a b : List Str) : (∀ i, (if sLt b a then b else a).take i = (if sLt a b then b else a).take i → i < (if sLt b a then b else a).length → i < (if sLt a b then b else a).length) ∧ lcp (if sLt b a then b else a) (if sLt a b then b else a) = lcp a b := by
  have key : ∀ m M : List Str, sLt m M = true → ∀ i, m.take i = M.take i → i < m.length → i < M.length := by
    intro m M h i ht hi
    by_cases hM : i < M.length
    · exact hM
    · rw [List.take_of_length_le (Nat.le_of_not_lt hM)] at ht
      rw [← ht, sLt_take] at h; cases h
  cases h1 : sLt b a with
  | true =>
    have h2 := sLt_asymm b a h1
    rw [h2]
    simp only [if_true, Bool.false_eq_true, if_false]
    exact ⟨key b a h1, lcp_comm b a⟩
  | false =>
    cases h2 : sLt a b with
    | true =>
      simp only [if_true, Bool.false_eq_true, if_false]
      exact ⟨key a b h2, trivial⟩
    | false =>
      simp only [Bool.false_eq_true, if_false]
      exact ⟨fun i _ h => h, by rw [lcp_self, ← sLt_total a b h2 h1, lcp_self]⟩
def good (c : List Nat) : Bool := decide (c ≠ [] ∧ c ≠ [46])
/-- the parts of a path -/
def cs (x : List Nat) : List (List Nat) := (sp x).filter good
def commonF (x y : List Nat) : List Nat := 47 :: jn (lcp (cs x) (cs y))
end Mine

end T_LC

section T_PC0b
open PySem PySem.W PyProof.Rows PySem.Calls PySem.Spec
set_option linter.unusedVariables false
set_option linter.unusedSimpArgs false
set_option maxRecDepth 100000
namespace Mine
local macro_rules | `(tactic| walk_at "d.mem") => `(tactic| first | (with_reducible exact List.mem_cons_self) | ((with_reducible refine' List.mem_cons_of_mem _ ?_); walk_at "d.mem"))
local macro_rules | `(tactic| walk_at "d.upd") => `(tactic| first | (with_reducible exact Upd.head) | ((with_reducible refine' Upd.tail ?hu); (case hu => walk_at "d.upd")))
local macro_rules | `(tactic| walk_at "d.meth") => `(tactic| (unfold MethTree; exact rfl))
local macro_rules | `(tactic| walk_at "d.kind") => `(tactic| (refine' Kinds.get (by assumption) ?_; kernel_rfl))
local macro_rules | `(tactic| walk_at "d.num") => `(tactic| first | assumption | decide | omega | (simp only [sizeLine_eq] at *; omega))
local macro_rules | `(tactic| walk_at "d.op") => `(tactic| first
  | (with_reducible exact op_add_int) | (with_reducible exact op_sub_int) | (with_reducible exact op_eq_str) | (with_reducible exact op_ne_str) | (with_reducible exact op_eq_int) | (with_reducible exact op_ne_int)
  | (with_reducible exact op_lt_int) | (with_reducible exact op_le_int) | (with_reducible exact op_gt_int) | (with_reducible exact op_iadd_int) | (with_reducible exact op_isub_int)
  | ((with_reducible refine' op_add_str ?_); walk_at "d.num") | ((with_reducible refine' op_mul_int ?_); mul_fits))
local macro_rules | `(tactic| walk_at "d.tru") => `(tactic| first | (with_reducible exact tru_bool) | (with_reducible exact tru_none) | (with_reducible exact tru_int) | ((with_reducible refine' tru_str ?_); walk_at "d.num"))
local macro_rules | `(tactic| walk_at "d.ev") => `(tactic| first
  | (with_reducible exact Ev.cint) | (with_reducible exact Ev.cstr) | (with_reducible exact Ev.cbool) | (with_reducible exact Ev.cnone)
  | ((with_reducible refine' Ev.name ?hm ?hd); (case hd => decide); (case hm => walk_at "d.mem"))
  | ((with_reducible refine' Ev.op ?ha ?hb ?ho); (case ha => walk_at "d.ev"); (case hb => walk_at "d.ev"); (case ho => walk_at "d.op"))
  | ((with_reducible refine' Ev.cmp ?ha ?hb ?ho ?hm); (case ha => walk_at "d.ev"); (case hb => walk_at "d.ev"); (case ho => walk_at "d.op"); (case hm => with_unfolding_all rfl))
  | ((with_reducible refine' Ev.lower ?ha ?hn ?hm); (case ha => walk_at "d.ev"); (case hn => walk_at "d.num"); (case hm => walk_at "d.meth"))
  | ((with_reducible refine' Ev.upper ?ha ?hn ?hm); (case ha => walk_at "d.ev"); (case hn => walk_at "d.num"); (case hm => walk_at "d.meth"))
  | ((with_reducible refine' Ev.isupper ?ha ?hm); (case ha => walk_at "d.ev"); (case hm => walk_at "d.meth"))
  | ((with_reducible refine' Ev.strSlice ?ha ?hl ?hu ?hn); (case ha => walk_at "d.ev"); (case hl => walk_at "d.part"); (case hu => walk_at "d.part"); (case hn => walk_at "d.num"))
  | ((with_reducible refine' Ev.itemL (EvL.name ?hm ?hd) ?hb ?h0 ?ha ?hn ?hs); (case hm => walk_at "d.mem"); (case hd => decide); (case hb => walk_at "d.ev"); (case h0 => walk_at "d.num"); (case ha => assumption); (case hn => walk_at "d.num"); (case hs => (intro _ _; with_unfolding_all rfl)))
  | ((with_reducible refine' Ev.strItem ?ha ?hb ?hn ?h1 ?h2 ?hs); (case ha => walk_at "d.ev"); (case hb => walk_at "d.ev"); (case hn => walk_at "d.num"); (case h1 => walk_at "d.num"); (case h2 => walk_at "d.num"); (case hs => (intro _ _; with_unfolding_all rfl)))
  | ((with_reducible refine' Ev.lenStr ?hn ?hk ?ha ?hb ?hs); (case hn => kernel_rfl); (case hk => walk_at "d.kind"); (case ha => walk_at "d.ev"); (case hb => walk_at "d.num"); (case hs => exact rfl))
  | ((with_reducible refine' Ev.min2 ?hn ?hk ?ha ?hb ?hs ?ht ?hu); (case hn => kernel_rfl); (case hk => walk_at "d.kind"); (case ha => walk_at "d.ev"); (case hb => walk_at "d.ev"); (case hs => exact rfl); (case ht => exact rfl); (case hu => exact rfl))
  | ((with_reducible refine' Ev.typeStr ?hn ?hk ?ha ?hs); (case hn => kernel_rfl); (case hk => walk_at "d.kind"); (case ha => walk_at "d.ev"); (case hs => exact rfl))
  | ((with_reducible refine' Ev.isSub ?hn ?hk ?ha ?hb ?hs ?ht ?hu); (case hn => kernel_rfl); (case hk => walk_at "d.kind"); (case ha => walk_at "d.ev"); (case hb => walk_at "d.ev"); (case hs => exact rfl); (case ht => exact rfl); (case hu => exact rfl))
  | ((with_reducible refine' Ev.notBytes ?hn ?hk ?ha ?hb ?hs ?ht ?hu); (case hn => kernel_rfl); (case hk => walk_at "d.kind"); (case ha => walk_at "d.ev"); (case hb => walk_at "d.ev"); (case hs => exact rfl); (case ht => exact rfl); (case hu => exact rfl))
  | ((with_reducible refine' Ev.startswith ?ha ?hb ?hm ?hs); (case ha => walk_at "d.ev"); (case hb => walk_at "d.ev"); (case hm => walk_at "d.meth"); (case hs => exact rfl))
  | ((with_reducible refine' Ev.endswith ?ha ?hb ?hm ?hs); (case ha => walk_at "d.ev"); (case hb => walk_at "d.ev"); (case hm => walk_at "d.meth"); (case hs => exact rfl))
  | ((with_reducible refine' Ev.rfind ?ha ?hb ?hm ?hs); (case ha => walk_at "d.ev"); (case hb => walk_at "d.ev"); (case hm => walk_at "d.meth"); (case hs => exact rfl))
  | ((with_reducible refine' Ev.neg ?ha); (case ha => walk_at "d.ev"))
  | ((with_reducible refine' Ev.tuple ?ha ?hn); (case ha => walk_at "d.evs"); (case hn => exact (by simp [sizeLine_eq])))
  | ((with_reducible refine' Ev.globalInt ?hn ?hk ?hd); (case hn => exact rfl); (case hk => walk_at "d.kind"); (case hd => decide))
  | ((with_reducible refine' Ev.builtin ?hn ?hv ?hk ?hm ?hd); (case hn => kernel_rfl); (case hv => walk_at "d.boot"); (case hk => walk_at "d.kind"); (case hm => decide); (case hd => decide)))
local macro_rules | `(tactic| walk_at "d.boot") => `(tactic| first | (with_reducible exact boot_str_) | (with_reducible exact boot_bytes_))
local macro_rules | `(tactic| walk_at "d.part") => `(tactic| first | (with_reducible exact EvP.nothing) | ((with_reducible refine' EvP.num ?ha); (case ha => walk_at "d.ev")) | ((with_reducible refine' EvP.nil ?ha); (case ha => walk_at "d.ev")))
local macro_rules | `(tactic| walk_at "d.evs") => `(tactic| first | (with_reducible exact EvS.nil) | ((with_reducible refine' EvS.cons ?ha ?hb ?hs); (case ha => walk_at "d.ev"); (case hb => walk_at "d.evs"); (case hs => exact rfl)))
local macro_rules | `(tactic| walk_at "d.te") => `(tactic| first
  | ((with_reducible refine' Te.cmp ?ha ?hb ?ho ?hm); (case ha => walk_at "d.ev"); (case hb => walk_at "d.ev"); (case ho => walk_at "d.op"); (case hm => with_unfolding_all rfl))
  | ((with_reducible refine' Te.not ?ha); walk_at "d.te")
  | ((with_reducible refine' Te.plain ?ha ?hb ?hc); (case ha => walk_at "d.ev"); (case hb => walk_at "d.tru"); (case hc => exact rfl)))
local macro_rules | `(tactic| walk_at "d.ret") => `(tactic| (refine' Ex.ret ?e ?_; (case e => walk_at "d.ev"); exact fun h v S q => ⟨S.keep, q.flat (by constructor)⟩))
local macro_rules | `(tactic| walk_at "d.asg") => `(tactic| (refine' Ex.assign ?e ?u ?_ ?hs; (case e => walk_at "d.ev"); (case u => walk_at "d.upd"); (case hs => exact rfl)))
local macro_rules | `(tactic| walk_at "d.aug") => `(tactic| (refine' Ex.augm ?m ?e ?o ?u ?_; (case m => walk_at "d.mem"); (case e => walk_at "d.ev"); (case o => walk_at "d.op"); (case u => walk_at "d.upd")))
local macro_rules | `(tactic| walk_at "d.fgt") => `(tactic| first | (with_reducible exact Fgt.nil) | ((with_reducible refine' Fgt.same ?hu); (case hu => walk_at "d.fgt")) | ((with_reducible refine' Fgt.free ?hu); (case hu => walk_at "d.fgt")))
local macro_rules | `(tactic| walk_at "d.range1") => `(tactic| ((with_reducible refine' EvR.of1 ?hn ?hk ?ha ?hs); (case hn => kernel_rfl); (case hk => walk_at "d.kind"); (case ha => walk_at "d.ev"); (case hs => exact rfl)))
local macro_rules | `(tactic| walk_at "d.op") => `(tactic| ((with_reducible refine' op_iadd_str ?_); walk_at "d.num"))
local macro_rules | `(tactic| walk_at "d.ev") => `(tactic| first
  | (with_reducible exact Ev.slash) | (with_reducible exact Ev.empty) | (with_reducible exact Ev.dot) | (with_reducible exact Ev.dotdot)
  | ((with_reducible refine' Ev.fspath ?hn ?hx ?he ?hs); (case hn => decide); (case hx => walk_at "d.kind"); (case he => walk_at "d.ev"); (case hs => exact rfl))
  | ((with_reducible refine' Ev.sep ?hn ?hx ?he ?hs); (case hn => decide); (case hx => walk_at "d.kind"); (case he => walk_at "d.ev"); (case hs => exact rfl))
  | ((with_reducible refine' Ev.rstrip1 ?ha ?hb ?hn ?hm ?hs); (case ha => walk_at "d.ev"); (case hb => walk_at "d.ev"); (case hn => walk_at "d.num"); (case hm => walk_at "d.meth"); (case hs => exact rfl))
  | ((with_reducible refine' Ev.splitS ?ha ?hb ?hn ?hm ?hs); (case ha => walk_at "d.ev"); (case hb => walk_at "d.ev"); (case hn => walk_at "d.num"); (case hm => walk_at "d.meth"); (case hs => exact rfl)))
abbrev cv (ps : List Str) (sep cur spl isabs c s1 s2 com i pre : Slot) : Vars := [("paths", .val (.tup (ps.map .str))), ("sep", sep), ("curdir", cur), ("split_paths", spl), ("isabs", isabs), ("c", c), ("s1", s1), ("s2", s2), ("common", com), ("i", i), ("prefix", pre)]
theorem StS.toV {K : Frag} {env : Env} {h₀ : Heap} {ex : Addr → Prop} {vs vs' : Vars} {h : Heap} (S : StS K env h₀ ex vs h) (e : vs = vs') : StS K env h₀ ex vs' h := e ▸ S
def gAV : AV → Bool
  | .str s => good s.cps.toList
  | _ => false
theorem filt (l : List (List Nat)) : ((l.map fun p => AV.str (T p)).filter gAV).map id = ((l.filter good).map T).map AV.str := by
  induction l with
  | nil => rfl
  | cons a l ih =>
    rw [List.map_cons, List.filter_cons, List.filter_cons]
    have e : gAV (.str (T a)) = good a := by simp [gAV, T]
    rw [e]
    cases good a <;> simp_all
theorem sp_mem_len {l p : List Nat} (h : p ∈ sp l) : p.length ≤ l.length := by
  have h1 := wt_sp l
  unfold wt at h1
  have h2 := le_sum_mem (List.mem_map.mpr ⟨p, h, rfl⟩ : p.length ∈ (sp l).map (·.length))
  obtain ⟨q, qs, e⟩ := sp_ne l
  rw [e] at h1 h2
  simp only [List.length_cons] at h1
  omega
theorem two {α : Type} {x y a : α} {i : Nat} (h : [x, y][i]? = some a) : a = x ∨ a = y := by
  have := List.mem_of_getElem? h
  simpa using this
def asT (f : List Nat → AV) : AV → AV
  | .str s => f s.cps.toList
  | _ => .none
theorem asT_T (f : List Nat → AV) (x : List Nat) : asT f (.str (T x)) = f x := by simp [asT, T]
def asL (f : List AV → AV) : AV → AV
  | .list s => f s
  | _ => .none
theorem rel_cell {env : Env} {kd : ScopeKind} {a b c : Str} {gg cc : Bool} {mm : List (Str × Const)} (fn : env.scope.kind = .function) (h : env.kindOf c = some .cell) :
    (relabel { kind := kd, names := [(a, NameKind.local), (b, NameKind.local), (c, NameKind.free)], isGenerator := gg, isCoroutine := cc, more := mm } env).names = [(a, NameKind.local), (b, NameKind.local), (c, NameKind.cell)] := by
  unfold relabel
  simp [fn, h]
theorem swaps_tt {env : Env} {elt : Expr} {gens : List Comprehension} {scope : Scope} {pos py : Pos} {y : Str} {l : Nat} (fn : env.scope.kind = .function) (hk : env.kindOf y = some .local) (hl : (py.line == pos.line) = true) (hn : (scope.names.any fun (n, k) => n == y && (k == .local || k == .cell)) = false) :
    swapsWith (.ListComp elt gens scope pos) (some (.Name y py)) l env = pure true := by
  have hb : env.blockKind = .function := by unfold Env.blockKind; rw [fn]; rfl
  unfold swapsWith
  simp only [hb, hk, hn]
  simp [hl, Expr.pos]
set_option maxHeartbeats 1000000 in
theorem comp_inner {w : World} {env : Env} (ccur : ∃ c, env.cells.lookup ("curdir" : Str) = some c) (l : List Nat) (cl : List (Str × Addr)) (C D : Addr) (scope : Scope) (q1 q2 q3 q4 q5 q6 q7 q8 q9 : Pos) (hl : l.length ≤ 6000) (hrel : (relabel scope env).names = ([(".0", NameKind.local), ("s", NameKind.local), ("curdir", NameKind.cell)] : List (Str × NameKind))) (hnam : scope.names = ([(".0", NameKind.local), ("s", NameKind.local), ("curdir", NameKind.free)] : List (Str × NameKind))) (hkf : scope.kind = .function) (hcl : ∀ y, (y, NameKind.free) ∈ scope.names → cl.lookup y = env.cells.lookup y) :
      Ev PG w (KK w) 5 (compEnvC scope cl C env) (Add No D) [("s", .val (.list ((sp l).map fun p => .str (T p)))), ("curdir", .val (.str (T [46])))]
        (.ListComp (.Name "c" q1) [⟨.Name "c" q2, .Name "s" q3, [.BoolOp .And [.Name "c" q4, .Compare (.Name "c" q5) [.NotEq] [.Name "curdir" q6] q7] q9], 0⟩] { kind := .function, names := ([(".0", NameKind.local), ("c", NameKind.local), ("curdir", NameKind.free)] : List (Str × NameKind)), isGenerator := false, isCoroutine := false, more := [] } q8) (.list (((sp l).filter good).map T |>.map .str)) := by
    have hsz := sizeLine_eq
    have hspl := split_le l
    have hk2 : Kinds (compEnvC scope cl C env) ([(".0", NameKind.local), ("s", NameKind.local), ("curdir", NameKind.cell)] : List (Str × NameKind)) := compKinds hkf hrel
    rw [← filt]
    refine' Ev.ofN (EvN.comp (xs := (sp l).map fun p => .str (T p)) (capt := [("curdir", .val (.str (T [46])))]) gAV id ?fc ?cell rfl ?nm rfl (EvI.list ?it) (by simp; omega) ?capt ?ifs ?elt (by intro _; rfl))
    case fc =>
      intro z hz
      simp at hz
      subst hz
      obtain ⟨c, e⟩ := ccur
      exact ⟨c, (hcl "curdir" (by rw [hnam]; simp)).trans e⟩
    case cell => decide
    case nm => decide
    case it => walk_at "d.ev"
    case capt =>
      intro p hp
      rw [List.mem_singleton.mp hp]
      refine ⟨?_, rfl, hk2.get (by kernel_rfl)⟩
      walk_at "d.mem"
    case ifs =>
      intro cl' C' D' i a ha hk'
      obtain ⟨p, hp, rfl⟩ := List.mem_map.mp (List.mem_of_getElem? ha)
      have hpl := sp_mem_len hp
      have hLp := T_length p
      refine' Ifs.one (Te.to (Te.and2 (a := decide (p ≠ [])) (b := decide (p ≠ [46])) (Te.to ?a1 (len_tru0 p)) (fun _ => Te.to ?b1 ?b2)) ?cc)
      case a1 => walk_at "d.te"
      case b1 => walk_at "d.te"
      case b2 => rw [bne, T_beq]; simp
      case cc => show _ = good p; unfold good; by_cases h1 : p = [] <;> by_cases h2 : p = [46] <;> simp [h1, h2]
    case elt =>
      intro cl' C' D' i a ha _ hk' _
      obtain ⟨p, hp, rfl⟩ := List.mem_map.mp (List.mem_of_getElem? ha)
      show Ev _ _ _ _ _ _ _ _ (.str (T p))
      walk_at "d.ev"
end Mine

end T_PC0b

section T_PCb
open PySem PySem.W PyProof.Rows PySem.Calls PySem.Spec
set_option linter.unusedVariables false
set_option linter.unusedSimpArgs false
set_option maxRecDepth 100000
namespace Mine
local macro_rules | `(tactic| walk_at "d.mem") => `(tactic| first | (with_reducible exact List.mem_cons_self) | ((with_reducible refine' List.mem_cons_of_mem _ ?_); walk_at "d.mem"))
local macro_rules | `(tactic| walk_at "d.upd") => `(tactic| first | (with_reducible exact Upd.head) | ((with_reducible refine' Upd.tail ?hu); (case hu => walk_at "d.upd")))
local macro_rules | `(tactic| walk_at "d.meth") => `(tactic| (unfold MethTree; exact rfl))
local macro_rules | `(tactic| walk_at "d.kind") => `(tactic| (refine' Kinds.get (by assumption) ?_; kernel_rfl))
local macro_rules | `(tactic| walk_at "d.num") => `(tactic| first | assumption | decide | omega | (simp only [sizeLine_eq] at *; omega))
local macro_rules | `(tactic| walk_at "d.op") => `(tactic| first
  | (with_reducible exact op_add_int) | (with_reducible exact op_sub_int) | (with_reducible exact op_eq_str) | (with_reducible exact op_ne_str) | (with_reducible exact op_eq_int) | (with_reducible exact op_ne_int)
  | (with_reducible exact op_lt_int) | (with_reducible exact op_le_int) | (with_reducible exact op_gt_int) | (with_reducible exact op_iadd_int) | (with_reducible exact op_isub_int)
  | ((with_reducible refine' op_add_str ?_); walk_at "d.num") | ((with_reducible refine' op_mul_int ?_); mul_fits))
local macro_rules | `(tactic| walk_at "d.tru") => `(tactic| first | (with_reducible exact tru_bool) | (with_reducible exact tru_none) | (with_reducible exact tru_int) | ((with_reducible refine' tru_str ?_); walk_at "d.num"))
local macro_rules | `(tactic| walk_at "d.ev") => `(tactic| first
  | (with_reducible exact Ev.cint) | (with_reducible exact Ev.cstr) | (with_reducible exact Ev.cbool) | (with_reducible exact Ev.cnone)
  | ((with_reducible refine' Ev.name ?hm ?hd); (case hd => decide); (case hm => walk_at "d.mem"))
  | ((with_reducible refine' Ev.op ?ha ?hb ?ho); (case ha => walk_at "d.ev"); (case hb => walk_at "d.ev"); (case ho => walk_at "d.op"))
  | ((with_reducible refine' Ev.cmp ?ha ?hb ?ho ?hm); (case ha => walk_at "d.ev"); (case hb => walk_at "d.ev"); (case ho => walk_at "d.op"); (case hm => with_unfolding_all rfl))
  | ((with_reducible refine' Ev.lower ?ha ?hn ?hm); (case ha => walk_at "d.ev"); (case hn => walk_at "d.num"); (case hm => walk_at "d.meth"))
  | ((with_reducible refine' Ev.upper ?ha ?hn ?hm); (case ha => walk_at "d.ev"); (case hn => walk_at "d.num"); (case hm => walk_at "d.meth"))
  | ((with_reducible refine' Ev.isupper ?ha ?hm); (case ha => walk_at "d.ev"); (case hm => walk_at "d.meth"))
  | ((with_reducible refine' Ev.strSlice ?ha ?hl ?hu ?hn); (case ha => walk_at "d.ev"); (case hl => walk_at "d.part"); (case hu => walk_at "d.part"); (case hn => walk_at "d.num"))
  | ((with_reducible refine' Ev.itemL (EvL.name ?hm ?hd) ?hb ?h0 ?ha ?hn ?hs); (case hm => walk_at "d.mem"); (case hd => decide); (case hb => walk_at "d.ev"); (case h0 => walk_at "d.num"); (case ha => assumption); (case hn => walk_at "d.num"); (case hs => (intro _ _; with_unfolding_all rfl)))
  | ((with_reducible refine' Ev.strItem ?ha ?hb ?hn ?h1 ?h2 ?hs); (case ha => walk_at "d.ev"); (case hb => walk_at "d.ev"); (case hn => walk_at "d.num"); (case h1 => walk_at "d.num"); (case h2 => walk_at "d.num"); (case hs => (intro _ _; with_unfolding_all rfl)))
  | ((with_reducible refine' Ev.lenStr ?hn ?hk ?ha ?hb ?hs); (case hn => kernel_rfl); (case hk => walk_at "d.kind"); (case ha => walk_at "d.ev"); (case hb => walk_at "d.num"); (case hs => exact rfl))
  | ((with_reducible refine' Ev.min2 ?hn ?hk ?ha ?hb ?hs ?ht ?hu); (case hn => kernel_rfl); (case hk => walk_at "d.kind"); (case ha => walk_at "d.ev"); (case hb => walk_at "d.ev"); (case hs => exact rfl); (case ht => exact rfl); (case hu => exact rfl))
  | ((with_reducible refine' Ev.typeStr ?hn ?hk ?ha ?hs); (case hn => kernel_rfl); (case hk => walk_at "d.kind"); (case ha => walk_at "d.ev"); (case hs => exact rfl))
  | ((with_reducible refine' Ev.isSub ?hn ?hk ?ha ?hb ?hs ?ht ?hu); (case hn => kernel_rfl); (case hk => walk_at "d.kind"); (case ha => walk_at "d.ev"); (case hb => walk_at "d.ev"); (case hs => exact rfl); (case ht => exact rfl); (case hu => exact rfl))
  | ((with_reducible refine' Ev.notBytes ?hn ?hk ?ha ?hb ?hs ?ht ?hu); (case hn => kernel_rfl); (case hk => walk_at "d.kind"); (case ha => walk_at "d.ev"); (case hb => walk_at "d.ev"); (case hs => exact rfl); (case ht => exact rfl); (case hu => exact rfl))
  | ((with_reducible refine' Ev.startswith ?ha ?hb ?hm ?hs); (case ha => walk_at "d.ev"); (case hb => walk_at "d.ev"); (case hm => walk_at "d.meth"); (case hs => exact rfl))
  | ((with_reducible refine' Ev.endswith ?ha ?hb ?hm ?hs); (case ha => walk_at "d.ev"); (case hb => walk_at "d.ev"); (case hm => walk_at "d.meth"); (case hs => exact rfl))
  | ((with_reducible refine' Ev.rfind ?ha ?hb ?hm ?hs); (case ha => walk_at "d.ev"); (case hb => walk_at "d.ev"); (case hm => walk_at "d.meth"); (case hs => exact rfl))
  | ((with_reducible refine' Ev.neg ?ha); (case ha => walk_at "d.ev"))
  | ((with_reducible refine' Ev.tuple ?ha ?hn); (case ha => walk_at "d.evs"); (case hn => exact (by simp [sizeLine_eq])))
  | ((with_reducible refine' Ev.globalInt ?hn ?hk ?hd); (case hn => exact rfl); (case hk => walk_at "d.kind"); (case hd => decide))
  | ((with_reducible refine' Ev.builtin ?hn ?hv ?hk ?hm ?hd); (case hn => kernel_rfl); (case hv => walk_at "d.boot"); (case hk => walk_at "d.kind"); (case hm => decide); (case hd => decide)))
local macro_rules | `(tactic| walk_at "d.boot") => `(tactic| first | (with_reducible exact boot_str_) | (with_reducible exact boot_bytes_))
local macro_rules | `(tactic| walk_at "d.part") => `(tactic| first | (with_reducible exact EvP.nothing) | ((with_reducible refine' EvP.num ?ha); (case ha => walk_at "d.ev")) | ((with_reducible refine' EvP.nil ?ha); (case ha => walk_at "d.ev")))
local macro_rules | `(tactic| walk_at "d.evs") => `(tactic| first | (with_reducible exact EvS.nil) | ((with_reducible refine' EvS.cons ?ha ?hb ?hs); (case ha => walk_at "d.ev"); (case hb => walk_at "d.evs"); (case hs => exact rfl)))
local macro_rules | `(tactic| walk_at "d.te") => `(tactic| first
  | ((with_reducible refine' Te.cmp ?ha ?hb ?ho ?hm); (case ha => walk_at "d.ev"); (case hb => walk_at "d.ev"); (case ho => walk_at "d.op"); (case hm => with_unfolding_all rfl))
  | ((with_reducible refine' Te.not ?ha); walk_at "d.te")
  | ((with_reducible refine' Te.plain ?ha ?hb ?hc); (case ha => walk_at "d.ev"); (case hb => walk_at "d.tru"); (case hc => exact rfl)))
local macro_rules | `(tactic| walk_at "d.ret") => `(tactic| (refine' Ex.ret ?e ?_; (case e => walk_at "d.ev"); exact fun h v S q => ⟨S.keep, q.flat (by constructor)⟩))
local macro_rules | `(tactic| walk_at "d.asg") => `(tactic| (refine' Ex.assign ?e ?u ?_ ?hs; (case e => walk_at "d.ev"); (case u => walk_at "d.upd"); (case hs => exact rfl)))
local macro_rules | `(tactic| walk_at "d.aug") => `(tactic| (refine' Ex.augm ?m ?e ?o ?u ?_; (case m => walk_at "d.mem"); (case e => walk_at "d.ev"); (case o => walk_at "d.op"); (case u => walk_at "d.upd")))
local macro_rules | `(tactic| walk_at "d.fgt") => `(tactic| first | (with_reducible exact Fgt.nil) | ((with_reducible refine' Fgt.same ?hu); (case hu => walk_at "d.fgt")) | ((with_reducible refine' Fgt.free ?hu); (case hu => walk_at "d.fgt")))
local macro_rules | `(tactic| walk_at "d.range1") => `(tactic| ((with_reducible refine' EvR.of1 ?hn ?hk ?ha ?hs); (case hn => kernel_rfl); (case hk => walk_at "d.kind"); (case ha => walk_at "d.ev"); (case hs => exact rfl)))
local macro_rules | `(tactic| walk_at "d.op") => `(tactic| ((with_reducible refine' op_iadd_str ?_); walk_at "d.num"))
local macro_rules | `(tactic| walk_at "d.ev") => `(tactic| first
  | (with_reducible exact Ev.slash) | (with_reducible exact Ev.empty) | (with_reducible exact Ev.dot) | (with_reducible exact Ev.dotdot)
  | ((with_reducible refine' Ev.fspath ?hn ?hx ?he ?hs); (case hn => decide); (case hx => walk_at "d.kind"); (case he => walk_at "d.ev"); (case hs => exact rfl))
  | ((with_reducible refine' Ev.sep ?hn ?hx ?he ?hs); (case hn => decide); (case hx => walk_at "d.kind"); (case he => walk_at "d.ev"); (case hs => exact rfl))
  | ((with_reducible refine' Ev.rstrip1 ?ha ?hb ?hn ?hm ?hs); (case ha => walk_at "d.ev"); (case hb => walk_at "d.ev"); (case hn => walk_at "d.num"); (case hm => walk_at "d.meth"); (case hs => exact rfl))
  | ((with_reducible refine' Ev.splitS ?ha ?hb ?hn ?hm ?hs); (case ha => walk_at "d.ev"); (case hb => walk_at "d.ev"); (case hn => walk_at "d.num"); (case hm => walk_at "d.meth"); (case hs => exact rfl)))
theorem Ex.forEnumB {prog : Program} {w : World} {K : Frag} {n : Nat} {env : Env} {h₀ : Heap} {ex : Addr → Prop} {vs : Vars} {Q : Flow → Heap → Prop} {rest : List Stmt} {σ : Type} (V : σ → Vars) (P : Nat → σ → Prop) (B : Heap → Prop) {xi xc : Str} {pi pc pt pf pcall pos : Pos} {k1 : Nat} {e : Expr} {body : List Stmt} {xs : List AV} (c₀ : σ)
    (hn : nsIn K mainGlobals "enumerate" = some none) (hk : env.kindOf "enumerate" = some .globalImplicit)
    (he : Ev prog w K n env ex vs e (.list xs)) (h1 : starEach [e] env = (false, eval e env) :: starEach [] env) (hv : V c₀ = vs) (hp₀ : P 0 c₀)
    (turn : ∀ i a c, xs[i]? = some a → P i c → ∃ vs', Upds [(xi, .int (i : Int)), (xc, a)] (V c) vs' ∧ Ex prog w n env ex (StS K env h₀ ex vs') body (fun f h => match f with
      | .next | .cont => ∃ c', P (i + 1) c' ∧ StS K env h₀ ex (V c') h
      | .brk => B h
      | .ret v => Q (.ret v) h))
    (done : ∀ c h, P xs.length c → StS K env h₀ ex (V c) h → B h)
    (hrest : Ex prog w n env ex B rest Q)
    (hs : ∀ x, foldedSetIterable (.Call (.Name "enumerate" pf) [e] [] pcall) env x = pure x) :
    Ex prog w n env ex (StS K env h₀ ex vs) (.For (.Tuple [.Name xi pi, .Name xc pc] k1 pt) (.Call (.Name "enumerate" pf) [e] [] pcall) body [] pos :: rest) Q :=
  Ex.forEnum V P B c₀ hn hk he h1 hv hp₀ turn (fun c hp => Ex.pre hrest fun h q => done c h hp q) hrest hs
theorem wt_filter (p : List Nat → Bool) : ∀ l, wt (l.filter p) ≤ wt l
  | [] => by simp
  | c :: l => by
    have ih := wt_filter p l
    rw [List.filter_cons]
    split
    · rw [wt_cons, wt_cons]; omega
    · rw [wt_cons]; omega
theorem wt_cs (l : List Nat) : wt (cs l) ≤ l.length + 1 := by
  have := wt_filter good (sp l)
  rw [wt_sp] at this
  exact this
theorem wt_lcp : ∀ a b : List (List Nat), wt (lcp a b) ≤ wt a
  | [], _ => by simp [lcp]
  | x :: a, [] => by simp [lcp, wt]
  | x :: a, y :: b => by
    unfold lcp
    split
    · have := wt_lcp a b; rw [wt_cons, wt_cons]; omega
    · simp [wt]
set_option maxHeartbeats 1000000 in
theorem commonpath_ok (w : World) (x y : List Nat) (hx : x.length ≤ 5000) (hy : y.length ≤ 5000) : CallP PG w (KK w) 6 155 [.list [.str (T (47 :: x)), .str (T (47 :: y))]] (.str (T (commonF (47 :: x) (47 :: y)))) := by
  rw [show commonF (47 :: x) (47 :: y) = 47 :: jn (lcp (cs (47 :: x)) (cs (47 :: y))) from rfl]
  refine CallP.gen (ps := ["paths"]) (ls := ["sep", "curdir", "split_paths", "isabs", "c", "s1", "s2", "common", "i", "prefix"]) (as' := [.list [.str (T (47 :: x)), .str (T (47 :: y))]]) (fun _ => No) rfl rfl (by kernel_rfl) rfl rfl rfl rfl rfl (by decide +kernel) (by kernel_rfl) rfl ?bind (fun _ _ h => h) (fun _ _ h => h.elim) ?_
  case bind => exact BindOk.plain fun us h => match us, h with | [u], _ => rfl
  intro env h₀ hk hc B
  (try dsimp only at hk)
  have csep := hc "sep" (by kernel_rfl)
  have ccur := hc "curdir" (by kernel_rfl)
  refine Ex.pre (S := StS (KK w) env h₀ No [("paths", .val (.list [.str (T (47 :: x)), .str (T (47 :: y))])), ("sep", .free), ("curdir", .free), ("split_paths", .free), ("isabs", .free), ("c", .free), ("s1", .free), ("s2", .free), ("common", .free), ("i", .free), ("prefix", .free)]) ?_ (fun h q => q)
  refine' Ex.assign (Ev.tupleMap (xs := [T (47 :: x), T (47 :: y)]) (by decide) ?n1 ?n2 ?n3 ?k1 ?k2 ?k3 (by decide) (fspath_ok w) ?e (by simp [sizeLine_eq]) rfl rfl rfl) ?u ?_ rfl
  case n1 => kernel_rfl
  case n2 => kernel_rfl
  case n3 => kernel_rfl
  case k1 => walk_at "d.kind"
  case k2 => walk_at "d.kind"
  case k3 => walk_at "d.kind"
  case e =>
    refine' Ev.to (a := .list [.str (T (47 :: x)), .str (T (47 :: y))]) ?e1 rfl
    case e1 => walk_at "d.ev"
  case u => walk_at "d.upd"
  refine' Ex.ite_ff (Te.to (Te.not (Te.tup (xs := [T (47 :: x), T (47 :: y)].map .str) ?t1 (by simp [sizeLine_eq]) rfl)) ?t2) ?_
  case t1 => walk_at "d.ev"
  case t2 => simp
  refine' Ex.ite_ff (Te.plain (Ev.notBytes (y := T (47 :: x)) ?n ?k (Ev.itemT (xs := [T (47 :: x), T (47 :: y)].map .str) (i := 0) (j := 0) ?a ?b rfl rfl (by decide) ?hs) ?f rfl rfl rfl) tru_bool rfl) ?_
  case n => kernel_rfl
  case k => walk_at "d.kind"
  case a => walk_at "d.ev"
  case b => walk_at "d.ev"
  case hs => intro _ _; with_unfolding_all rfl
  case f => walk_at "d.ev"
  walk_at "d.asg"
  walk_at "d.asg"
  have hspx := split_le (47 :: x)
  have hspy := split_le (47 :: y)
  have hlx : (47 :: x).length = x.length + 1 := by simp
  have hly : (47 :: y).length = y.length + 1 := by simp
  have hsz := sizeLine_eq
  refine' Ex.try_ (T := fun _ => False) ?body (fun A R s E hS => hS.elim)
  refine' Ex.comp (xs := [T (47 :: x), T (47 :: y)].map .str) (capt := [("sep", .val (.str (T [47])))]) (fun _ => true) (asT fun l => .list ((sp l).map fun p => .str (T p))) ?sw ?fc ?cell rfl ?nm rfl (EvI.tup ?it) (by simp [sizeLine_eq]) ?capt ?ifs ?elt ?u ?_ (by intro _; rfl)
  case sw => exact swaps_tt hk.2 (hk.get (by kernel_rfl)) rfl (by decide)
  case fc => intro z hz; simp at hz; subst hz; exact csep
  case cell => decide
  case nm => decide
  case it => walk_at "d.ev"
  case capt =>
    intro p hp
    rw [List.mem_singleton.mp hp]
    refine ⟨?_, rfl, hk.get (by kernel_rfl)⟩
    walk_at "d.mem"
  case ifs => exact fun cl C D i a ha hk' => Ifs.nil
  case elt =>
    intro cl C D i a ha _ hk' hcl
    rcases two ha with rfl | rfl
    · rw [asT_T]
      walk_at "d.ev"
    · rw [asT_T]
      walk_at "d.ev"
  case u => walk_at "d.upd"
  refine' Ex.try_ (T := StS (KK w) env h₀ No (cv [T (47 :: x), T (47 :: y)] (.val (.str (T [47]))) (.val (.str (T [46]))) (.val (.list [.list ((sp (47 :: x)).map fun p => .str (T p)), .list ((sp (47 :: y)).map fun p => .str (T p))])) (.val (.bool true)) .free .free .free .free .free .free)) ?set ?_
  case set =>
    refine' Ex.setComp1 (xs := [T (47 :: x), T (47 :: y)].map .str) (capt := [("sep", .val (.str (T [47])))]) ?fc ?cell rfl ?nm rfl (EvI.tup ?it) (by simp [sizeLine_eq]) (by simp) ?capt ?elt ?u (Ex.nil fun h q => q.toV ?vv) (by intro _; rfl) rfl rfl
    case fc => intro z hz; simp at hz; subst hz; exact csep
    case cell => decide
    case nm => decide
    case it => walk_at "d.ev"
    case capt =>
      intro p hp
      rw [List.mem_singleton.mp hp]
      refine ⟨?_, rfl, hk.get (by kernel_rfl)⟩
      walk_at "d.mem"
    case elt =>
      intro cl C D i a ha hk' hcl
      rcases two ha with rfl | rfl
      · refine' Ev.to ?e1 ?e2
        case e1 => walk_at "d.ev"
        case e2 => rw [starts_T]; rfl
      · refine' Ev.to ?e1 ?e2
        case e1 => walk_at "d.ev"
        case e2 => rw [starts_T]; rfl
    case u => walk_at "d.upd"
    case vv => simp [asT_T, List.filter]
  refine' Ex.comp (xs := [.list ((sp (47 :: x)).map fun p => .str (T p)), .list ((sp (47 :: y)).map fun p => .str (T p))]) (capt := [("curdir", .val (.str (T [46])))]) (fun _ => true) (asL fun l => .list ((l.filter gAV).map id)) ?sw ?fc ?cell rfl ?nm rfl (EvI.list ?it) (by simp [sizeLine_eq]) ?capt ?ifs ?elt ?u ?_ (by intro _; rfl)
  case sw => exact swaps_tt hk.2 (hk.get (by kernel_rfl)) rfl (by decide)
  case fc => intro z hz; simp at hz; subst hz; exact ccur
  case cell => decide
  case nm => decide
  case it => walk_at "d.ev"
  case capt =>
    intro p hp
    rw [List.mem_singleton.mp hp]
    refine ⟨?_, rfl, hk.get (by kernel_rfl)⟩
    walk_at "d.mem"
  case ifs => exact fun cl C D i a ha hk' => Ifs.nil
  case elt =>
    intro cl C D i a ha _ hk' hcl
    have hcc : env.kindOf "curdir" = some .cell := hk.get (by kernel_rfl)
    rcases two ha with rfl | rfl
    · rw [show asL (fun l => .list ((l.filter gAV).map id)) (.list ((sp (47 :: x)).map fun p => .str (T p))) = .list ((((sp (47 :: x)).filter good).map T).map .str) from congrArg AV.list (filt (sp (47 :: x)))]
      exact comp_inner ccur (47 :: x) cl C D _ _ _ _ _ _ _ _ _ _ (by omega) (rel_cell hk.2 hcc) rfl rfl hcl
    · rw [show asL (fun l => .list ((l.filter gAV).map id)) (.list ((sp (47 :: y)).map fun p => .str (T p))) = .list ((((sp (47 :: y)).filter good).map T).map .str) from congrArg AV.list (filt (sp (47 :: y)))]
      exact comp_inner ccur (47 :: y) cl C D _ _ _ _ _ _ _ _ _ _ (by omega) (rel_cell hk.2 hcc) rfl rfl hcl
  case u => walk_at "d.upd"
  refine Ex.toVars (vs' := cv [T (47 :: x), T (47 :: y)] (.val (.str (T [47]))) (.val (.str (T [46]))) (.val (.list [.list (((cs (47 :: x)).map T).map .str), .list (((cs (47 :: y)).map T).map .str)])) (.val (.bool true)) .free .free .free .free .free .free) ?_ ?vv
  case vv =>
    have e : ∀ l : List Nat, asL (fun l => .list ((l.filter gAV).map id)) (.list ((sp l).map fun p => .str (T p))) = .list (((cs l).map T).map .str) := fun l => congrArg AV.list (filt (sp l))
    simp only [List.filter, List.map_cons, List.map_nil, e]
    rfl
  have hwx : wt (cs (47 :: x)) ≤ 6000 := by have := wt_cs (47 :: x); omega
  have hwy : wt (cs (47 :: y)) ≤ 6000 := by have := wt_cs (47 :: y); omega
  generalize cs (47 :: x) = a at hwx ⊢
  generalize cs (47 :: y) = b at hwy ⊢
  have hla := len_wt a
  have hlb := len_wt b
  refine' Ex.assign (Ev.minL (xs := a.map T) (ys := b.map T) (by decide) ?n ?k ?e rfl) ?u ?_ rfl
  case n => kernel_rfl
  case k => walk_at "d.kind"
  case e => walk_at "d.ev"
  case u => walk_at "d.upd"
  refine' Ex.assign (Ev.maxL (xs := a.map T) (ys := b.map T) (by decide) ?n ?k ?e rfl) ?u ?_ rfl
  case n => kernel_rfl
  case k => walk_at "d.kind"
  case e => walk_at "d.ev"
  case u => walk_at "d.upd"
  obtain ⟨hmm, hlcp⟩ := minmax (a.map T) (b.map T)
  have hlm : (if sLt (b.map T) (a.map T) then b.map T else a.map T).length ≤ 6000 := by split <;> simp <;> omega
  have hlM : (if sLt (a.map T) (b.map T) then b.map T else a.map T).length ≤ 6000 := by split <;> simp <;> omega
  rw [lcp_map T (fun _ _ => T_inj)] at hlcp
  have hwl : wt (lcp a b) ≤ 6000 := by have := wt_lcp a b; omega
  generalize (if sLt (b.map T) (a.map T) then b.map T else a.map T) = m at hmm hlcp hlm ⊢
  generalize (if sLt (a.map T) (b.map T) then b.map T else a.map T) = M at hmm hlcp hlM ⊢
  generalize lcp a b = r at hlcp hwl ⊢
  generalize hspl : AV.list [AV.list ((a.map T).map .str), AV.list ((b.map T).map .str)] = spl
  clear hla hlb hwx hwy
  walk_at "d.asg"
  refine' Ex.forEnumB (σ := Unit) (xs := m.map .str) (fun _ => cv [T (47 :: x), T (47 :: y)] (.val (.str (T [47]))) (.val (.str (T [46]))) (.val spl) (.val (.bool true)) .free (.val (.list (m.map .str))) (.val (.list (M.map .str))) (.val (.list (m.map .str))) .free .free) (fun i _ => m.take i = M.take i)
    (StS (KK w) env h₀ No (cv [T (47 :: x), T (47 :: y)] (.val (.str (T [47]))) (.val (.str (T [46]))) (.val spl) (.val (.bool true)) .free (.val (.list (m.map .str))) (.val (.list (M.map .str))) (.val (.list ((r.map T).map .str))) .free .free)) () ?hn ?hk ?he rfl rfl ?p0 ?turn ?done ?rest (by intro _; rfl)
  case hn => kernel_rfl
  case hk => walk_at "d.kind"
  case he => walk_at "d.ev"
  case p0 => simp
  case done =>
    intro c h hp q
    have hlen : (m.map AV.str).length = m.length := by simp
    rw [hlen] at hp
    have hle : m.length ≤ M.length := by
      have := congrArg List.length hp
      simp at this; omega
    have e : m = r.map T := by rw [← hlcp, lcp_stop m M m.length hp (fun h1 => absurd h1 (Nat.lt_irrefl _)) (Nat.le_refl _) (.inl rfl), List.take_length]
    rw [e] at q ⊢
    exact q
  case turn =>
    intro i v c hi hp
    have him : i < m.length := by have := (List.getElem?_eq_some_iff.mp hi).1; simpa using this
    have hiM := hmm i hp him
    obtain ⟨s, hs, rfl⟩ : ∃ s, m[i]? = some s ∧ v = .str s := by
      simp at hi; obtain ⟨s, h1, h2⟩ := hi; exact ⟨s, h1, h2.symm⟩
    obtain ⟨s', hs'⟩ : ∃ s', M[i]? = some s' := ⟨M[i], by simp [hiM]⟩
    have hs2 : (M.map AV.str)[((i : Nat) : Int).toNat]? = some (.str s') := by simp [hs']
    have hMl : (M.map AV.str).length = M.length := by simp
    refine' ⟨_, .cons ?u1 (.cons ?u2 .nil), ?tbody⟩
    case u1 => walk_at "d.upd"
    case u2 => walk_at "d.upd"
    by_cases hne : s = s'
    · refine' Ex.ite_ff (Te.to (Te.cmp ?a1 (Ev.itemL (i := (i : Int)) (a := .str s') (EvL.of ?a2) ?a3 (by omega) hs2 (by omega) ?a4) op_ne_str ?a5) ?a6) ?_
      case a1 => walk_at "d.ev"
      case a2 => walk_at "d.ev"
      case a3 => walk_at "d.ev"
      case a4 => intro _ _; with_unfolding_all rfl
      case a5 => with_unfolding_all rfl
      case a6 => simp [hne]
      refine Ex.nil fun h q => ⟨(), by rw [List.take_add_one, List.take_add_one, hp, hs, hs', hne], q.forget ?_⟩
      walk_at "d.fgt"
    · refine' Ex.ite_tt (Te.to (Te.cmp ?a1 (Ev.itemL (i := (i : Int)) (a := .str s') (EvL.of ?a2) ?a3 (by omega) hs2 (by omega) ?a4) op_ne_str ?a5) ?a6) ?_
      case a1 => walk_at "d.ev"
      case a2 => walk_at "d.ev"
      case a3 => walk_at "d.ev"
      case a4 => intro _ _; with_unfolding_all rfl
      case a5 => with_unfolding_all rfl
      case a6 => simpa using hne
      have e : (m.map AV.str).take i = (r.map T).map .str := by
        rw [← List.map_take, ← hlcp, lcp_stop m M i hp (fun _ _ => by rw [hs, hs']; simpa using hne) (by omega) (.inr (.inl hiM))]
      refine' Ex.assign (Ev.to (Ev.ofN (EvN.slice (l := none) (u := some (i : Int)) (EvL.of ?b1) EvP.nothing (EvP.num ?b2) (by simp; omega) (pick_upto i) (by intro _ _; rfl))) (congrArg AV.list e)) ?u ?_ rfl
      case b1 => walk_at "d.ev"
      case b2 => walk_at "d.ev"
      case u => walk_at "d.upd"
      refine Ex.brk fun h q => q.forget ?_
      walk_at "d.fgt"
  case rest =>
    have hw47 := T_length [47]
    simp only [List.length_cons, List.length_nil] at hw47
    have hjl := jn_len r
    have hjw : ((r.map T).map (·.length)).sum + (r.map T).length ≤ 1048576 := by
      rw [List.map_map, List.length_map]
      have : (List.map ((fun x : Str => x.length) ∘ T) r) = r.map (·.length) := List.map_congr_left fun x _ => T_length x
      rw [this]
      unfold wt at hwl; omega
    refine' Ex.assign (Ev.if_ (b := true) ?t (fun _ => ?e1) (fun h => by cases h)) ?u ?_ rfl
    case t => walk_at "d.te"
    case e1 => walk_at "d.ev"
    case u => walk_at "d.upd"
    refine' Ex.ret (Ev.to (Ev.op ?e1 (Ev.joinL (ys := r.map T) ?e2 (EvL.of ?e3) ?e5 hjw ?e6 ?e7) (op_add_str ?e8)) ?e9) ?_
    case e1 => walk_at "d.ev"
    case e2 => walk_at "d.ev"
    case e3 => walk_at "d.ev"
    case e5 => omega
    case e6 => walk_at "d.meth"
    case e7 => exact rfl
    case e8 => rw [join_T, hw47, T_length]; omega
    case e9 => exact (by rw [join_T, T_append]; rfl : AV.str (T [47] ++ Str.join (T [47]) (r.map T)) = AV.str (T (47 :: jn r)))
    exact fun h v S q => ⟨S.keep, q.flat (by constructor)⟩
end Mine

end T_PCb

section T_DY
open PySem PySem.W PyProof.Rows PySem.Calls PySem.Spec
open PySem.SeqAt
set_option linter.unusedVariables false
set_option linter.unusedSimpArgs false
set_option maxRecDepth 100000
namespace Mine
/-! ## sums -/
def bval (b : Bool) : Int := if b then 1 else 0
def bsum : List Bool → Int
  | [] => 0
  | b :: l => bval b + bsum l
section
variable {prog : Program} {w : World} {A : Around} {R : Result → Shared → Prop} {I : Addr} {fp wr : List Addr} {n : Nat} {P : Nat → Value → Prop} {St : Nat → Heap → Prop}
end
section
variable {prog : Program} {w : World} {K : Frag} {n : Nat} {env : Env} {h₀ : Heap} {ex : Addr → Prop} {vs vs' : Vars} {S S' : Heap → Prop} {Q : Flow → Heap → Prop} {rest : List Stmt}
theorem op_pow_int {i j : Int} (hn : 0 ≤ j) (hn2 : j ≤ 1000000) (ha : i.natAbs < 2 ^ 64) : OpOk prog w n ex (binaryOp .Pow) (.int i) (.int j) (.int (i ^ j.toNat)) := by
  intro A R s Q E u v T hu hv h; cases hu; cases hv; exact pow_int_small hn hn2 ha (h _ _ (Grown.tok s _) (.int _ _))
end
end Mine

end T_DY

section T_DZ
open PySem PySem.W PyProof.Rows PySem.Calls PySem.Spec
open PySem.SeqAt
open PySem.Builtin PySem.Builtin.Str
set_option linter.unusedVariables false
set_option linter.unusedSimpArgs false
set_option maxRecDepth 100000
namespace Mine
section
variable {prog : Program} {w : World} {K : Frag} {n : Nat} {env : Env} {h₀ : Heap} {ex : Addr → Prop} {vs vs' : Vars} {S S' : Heap → Prop} {Q : Flow → Heap → Prop} {rest : List Stmt}
def vBool (b : Bool) : Value → Bool
  | .bool c => c == b
  | _ => false
theorem Ev.indexB {o e : Expr} {apos pos : Pos} {bs : List Bool} {b : Bool} {pl : Sem Bool} (ho : EvN prog w K n env ex vs o (bs.map .bool)) (hb : Ev prog w K n env ex vs e (.bool b)) (hm : b ∈ bs) (hl : bs.length ≤ 100000) (he : MethTree env o "index" apos pos [e] pl) (h1 : starEach [e] env = (false, eval e env) :: starEach [] env) :
    Ev prog w K n env ex vs (.Call (.Attribute o "index" apos) [e] [] pos) (.int (bs.idxOf b)) := by
  intro A R s Q E S h
  refine MethodCall_ (pl := pl) ?_ he
  refine ho A R s _ _ S fun l us s₁ g₁ hl0 il q₁ => ?_
  obtain ⟨o', ho', hc, hd, hnd⟩ := id il
  refine getMethod_builtin ⟨o', ho', hc⟩ PySem.F.plainAttrs_list PySem.F.slot_list_index PySem.F.type_list_index (fun a e => by cases e; exact ⟨o', ho', (hnd rfl).1⟩) ?_
  refine callWith_method1 (wpAny_items_cons (hb A R s₁ _ _ (S.up g₁) fun v s₂ g₂ q₂ => wpAny_items_nil ?_) h1) h1 rfl
  cases q₂
  have il₂ : s₂.heap.IsList l us.toArray := IsList.goes il.isList fun o e => g₂.ext _ o e
  obtain ⟨⟨cls, dd, data, sl⟩, ho2, hc2, n2, hd2⟩ := id il₂
  simp only at hc2 hd2
  subst hc2 hd2
  have hlen := q₁.length
  simp only [List.length_map] at hlen
  have hj : bs.idxOf b < bs.length := List.idxOf_lt_length_iff.mpr hm
  have at_ : ∀ j (h : j < us.toArray.size), ∃ c, bs[j]? = some c ∧ us.toArray[j] = .bool c := by
    intro j h
    have h' : j < us.length := by simpa using h
    obtain ⟨a, ha, qa⟩ := q₁.get' (i := j) (v := us[j]) (by simp [h'])
    simp only [List.getElem?_map, Option.map_eq_some_iff] at ha
    obtain ⟨c, hc, rfl⟩ := ha
    have e : us.toArray[j] = us[j] := by simp
    rw [e]
    generalize us[j] = v at qa
    cases qa
    exact ⟨c, hc, rfl⟩
  refine call_meets PySem.F.slot_list_index ⟨_, ho2, rfl⟩ PySem.F.entry_list_index (PySem.F.args_list_index_2 _ _)
    (list_indexAt l us.toArray n2 dd sl (.bool b) (vBool b) (bs.idxOf b) (by simpa [hlen] using hj) (by omega) ?_ ?_) ⟨ho2, fun y hy => ?_, h _ _ ((g₁.trans g₂).trans (Grown.tok _ _)) (.int _ _)⟩
  · obtain ⟨c, hc, e⟩ := at_ (bs.idxOf b) (by simpa [hlen] using hj)
    rw [e]
    have := List.getElem_idxOf hj
    rw [List.getElem?_eq_getElem hj, this] at hc
    cases hc
    show (b == b) = true
    simp
  · intro m hm' hlt
    obtain ⟨c, hc, e⟩ := at_ m hm'
    rw [e]
    show (c == b) = false
    have hml : m < bs.length := by omega
    have hne := List.not_of_lt_findIdx (p := (· == b)) (xs := bs) (i := m) (by simpa [List.idxOf] using hlt)
    rw [List.getElem?_eq_getElem hml] at hc
    cases hc
    simpa using hne
  · obtain ⟨j, hj', rfl⟩ := Array.mem_iff_getElem.mp hy
    obtain ⟨c, hc, e⟩ := at_ j hj'
    rw [e]
    exact EqAt.bool_bool c b

end
end Mine

end T_DZ

section T_EA
open PySem PySem.W PyProof.Rows PySem.Calls PySem.Spec
set_option linter.unusedVariables false
set_option linter.unusedSimpArgs false
set_option maxRecDepth 100000
namespace Mine
section
variable {prog : Program} {w : World} {K : Frag} {n : Nat} {env : Env} {h₀ : Heap} {ex : Addr → Prop} {vs vs₁ vs₂ vs' : Vars} {S S' : Heap → Prop} {Q : Flow → Heap → Prop} {rest : List Stmt}
/-- x takes a new list -/
theorem store_own {A : Around} {s : Shared} {QQ : Unit → Shared → Prop} {E : Value → Shared → Prop} {x : Str} {l : Addr} {pp : Bool} {us : List Value} {xs : List AV} (S : StS K env h₀ ex vs s.heap) (u : Upd x (.own l pp xs) vs vs') (hex : ex l) (il : ListAt s.heap l pp us) (q : Vals s.heap ex us xs) (h0 : h₀.get? l = none) (hno : ∀ y q ys, (y, Slot.own l q ys) ∈ vs → y = x)
    (h : ∀ h' tk, StS K env h₀ ex vs' h' → Kept env ex s.heap h' → (∀ l p us, ListAt s.heap l p us → ListAt h' l p us) → QQ () { s with heap := h', toks := tk }) : wpAny (model prog w) A (storeName env x (.ref l)) QQ E s := by
  obtain ⟨old, hm⟩ := u.has
  have ho : ∀ l' p' xs', Slot.own l pp xs = .own l' p' xs' → h₀.get? l' = none ∧ ∀ y q ys, (y, Slot.own l' q ys) ∈ vs → y = x := fun l' p' xs' e => by cases e; exact ⟨h0, hno⟩
  rcases S.kinds _ hm with hk | ⟨hk, c, hc⟩
  · obtain ⟨m, hn⟩ := S.ns
    refine wpAny_storeName_local hk hn (fun h' hn' hs => ?_) (fn_not S.e.fn)
    have kk : Kept env ex s.heap h' := fun b o hb _ _ e => (hs.2 b hb).trans e
    have ilk : ∀ l p us, ListAt s.heap l p us → ListAt h' l p us := fun l p us q => by
      obtain ⟨o, ho1, hc1, ⟨n1, hd1⟩, hn1⟩ := q
      exact ⟨o, (hs.2 l (S.seqNe ho1 hd1).1).trans ho1, hc1, ⟨n1, hd1⟩, hn1⟩
    exact h h' _ (S.store_local hk hn hn' hs u ⟨.loc _ hk hn' (by simp), hex, us, ilk _ _ _ il, q.moves (S.seqKept kk) fun _ _ n _ => n⟩ ho) kk ilk
  · obtain ⟨_, v₀, hv⟩ := S.cells x c hc
    refine wpAny_storeName_cell S.e.fn hk hc hv fun h' hn' hs => ?_
    have kk : Kept env ex s.heap h' := fun b o _ hb _ e => (hs.2 b (hb x c hc)).trans e
    have ilk : ∀ l p us, ListAt s.heap l p us → ListAt h' l p us := fun l p us q => by
      obtain ⟨o, ho1, hc1, ⟨n1, hd1⟩, hn1⟩ := q
      exact ⟨o, (hs.2 l ((S.seqNe ho1 hd1).2 x c hc)).trans ho1, hc1, ⟨n1, hd1⟩, hn1⟩
    exact h h' s.toks (S.store_cell hk hc hn' hs u ⟨.cel c hk hc hn', hex, us, ilk _ _ _ il, q.moves (S.seqKept kk) fun _ _ n _ => n⟩ ho) kk ilk
theorem addNot {h : Heap} {l : Addr} (hl : h.get? l = none) : ∀ b o, ¬ ex b → h.get? b = some o → ¬ Add ex l b := fun b o hb e q => q.elim hb fun q => by rw [q, hl] at e; cases e
theorem StS.none0 {h : Heap} (S : StS K env h₀ ex vs h) {l : Addr} (hl : h.get? l = none) : h₀.get? l = none := by
  cases e : h₀.get? l with
  | none => rfl
  | some o => have := S.keep _ _ e; rw [hl] at this; cases this
end
end Mine

end T_EA

section T_QL
open PySem PySem.W PyProof.Rows PySem.Calls PySem.Spec
set_option linter.unusedVariables false
set_option linter.unusedSimpArgs false
set_option maxRecDepth 100000
namespace Mine
/-! ## ways and places -/
def comps (r : List Nat) : List (List Nat) := (sp r).foldl nstep []
theorem sp_app (a b : List Nat) : sp (a ++ 47 :: b) = sp a ++ sp b := by
  induction a with
  | nil => simp [sp]
  | cons c a ih =>
    rw [List.cons_append]
    by_cases hc : c = 47
    · subst hc
      rw [show sp (47 :: (a ++ 47 :: b)) = [] :: sp (a ++ 47 :: b) by rw [sp, if_pos rfl], show sp (47 :: a) = [] :: sp a by rw [sp, if_pos rfl], ih]; rfl
    · obtain ⟨p, ps, e⟩ := sp_ne a
      rw [sp, if_neg hc, ih, e, sp, if_neg hc, e]
      rfl
theorem nstep_nil (acc : List (List Nat)) : nstep acc [] = acc := by simp [nstep]
theorem joinF_comps (r p : List Nat) (hr : r.head? ≠ some 47) (hp : p.head? ≠ some 47) : ∃ r', joinF (47 :: r) p = 47 :: r' ∧ r'.head? ≠ some 47 ∧ comps r' = (sp p).foldl nstep (comps r) ∧ r'.length ≤ r.length + p.length + 1 := by
  unfold joinF
  rw [if_neg (by simp [hp])]
  by_cases he : (47 :: r).getLast? = some 47
  · rw [if_pos he]
    refine ⟨r ++ p, rfl, ?_, ?_, by rw [List.length_append]; omega⟩
    · cases r with
      | nil => simpa using hp
      | cons c r => simpa using hr
    · rcases List.eq_nil_or_concat r with e | ⟨q, c, e⟩
      · subst e; simp [comps, sp, nstep_nil]
      · rw [List.concat_eq_append] at e
        subst e
        have hc : c = 47 := by
          rw [show 47 :: (q ++ [c]) = (47 :: q) ++ [c] by simp, List.getLast?_concat] at he
          exact Option.some.inj he
        subst hc
        unfold comps
        rw [show q ++ [47] ++ p = q ++ 47 :: p by simp, sp_app, show q ++ [47] = q ++ 47 :: [] from rfl, sp_app, List.foldl_append, List.foldl_append]
        simp [sp, nstep_nil]
  · rw [if_neg he]
    refine ⟨r ++ 47 :: p, rfl, ?_, ?_, by simp; omega⟩
    · cases r with
      | nil => simp at he
      | cons c r => simpa using hr
    · unfold comps
      rw [sp_app, List.foldl_append]
theorem normF_comps (r : List Nat) : normF r = 47 :: jn (comps r) := rfl
section
variable {prog : Program} {w : World} {n : Nat} {ex : Addr → Prop}
theorem op_floordiv_int {i j : Int} (hj : j ≠ 0) (hp : Builtin.divisionGoesByPylong i j = false) : OpOk prog w n ex (binaryOp .FloorDiv) (.int i) (.int j) (.int (i.fdiv j)) := by
  intro A R s Q E u v T hu hv h; cases hu; cases hv; exact PyProof.Rows.floordiv_int hj (h _ _ (Grown.tok s _) (.int _ _)) (.inl hp)
end
section
variable {w : World} {n : Nat} {env : Env} {ex : Addr → Prop} {vs : Vars}
theorem Ev.norm {p pos : Pos} {e : Expr} {r : List Nat} (hn : 3 ≤ n) (hx : env.kindOf "normpath" = some .globalImplicit) (he : Ev PG w (KK w) n env ex vs e (.str (T (47 :: r)))) (hr : r.head? ≠ some 47) (hl : r.length ≤ 5000) (h1 : starEach [e] env = (false, eval e env) :: starEach [] env) :
    Ev PG w (KK w) n env ex vs (.Call (.Name "normpath" p) [e] [] pos) (.str (T (normF r))) :=
  Ev.call (by kernel_rfl) hx rfl rfl (EvS.cons he EvS.nil h1) ((normpath_ok w r hr hl).up hn) ⟨_, _, h1⟩ (by decide)
theorem Ev.join2 {p pos : Pos} {e f : Expr} {x y : List Nat} (hn : 2 ≤ n) (hx : env.kindOf "join" = some .globalImplicit) (he : Ev PG w (KK w) n env ex vs e (.str (T x))) (hf : Ev PG w (KK w) n env ex vs f (.str (T y))) (hlx : x.length ≤ 10000) (hly : y.length ≤ 10000) (h1 : starEach [e, f] env = (false, eval e env) :: starEach [f] env) (h2 : starEach [f] env = (false, eval f env) :: starEach [] env) :
    Ev PG w (KK w) n env ex vs (.Call (.Name "join" p) [e, f] [] pos) (.str (T (joinF x y))) :=
  Ev.call (by kernel_rfl) hx rfl rfl (EvS.cons he (EvS.cons hf EvS.nil h2) h1) ((join_ok w x y hlx hly).up hn) ⟨_, _, h1⟩ (by decide)
theorem Ev.levC {p pos : Pos} {e f g : Expr} {x y : List Nat} {m : Int} (hn : 2 ≤ n) (hx : env.kindOf "_levenshtein_distance" = some .globalImplicit) (he : Ev PG w (KK w) n env ex vs e (.str (T x))) (hf : Ev PG w (KK w) n env ex vs f (.str (T y))) (hg : Ev PG w (KK w) n env ex vs g (.int m)) (hlx : x.length ≤ 1000) (hly : y.length ≤ 1000) (h1 : starEach [e, f, g] env = (false, eval e env) :: starEach [f, g] env) (h2 : starEach [f, g] env = (false, eval f env) :: starEach [g] env) (h3 : starEach [g] env = (false, eval g env) :: starEach [] env) :
    Ev PG w (KK w) n env ex vs (.Call (.Name "_levenshtein_distance" p) [e, f, g] [] pos) (.int (lev x y m)) :=
  Ev.call (by kernel_rfl) hx rfl rfl (EvS.cons he (EvS.cons hf (EvS.cons hg EvS.nil h3) h2) h1) ((lev_ok w x y m hlx hly).up hn) ⟨_, _, h1⟩ (by decide)
theorem Ev.common {p pos : Pos} {e : Expr} {x y : List Nat} (hn : 6 ≤ n) (hx : env.kindOf "commonpath" = some .globalImplicit) (he : Ev PG w (KK w) n env ex vs e (.list [.str (T (47 :: x)), .str (T (47 :: y))])) (hlx : x.length ≤ 5000) (hly : y.length ≤ 5000) (h1 : starEach [e] env = (false, eval e env) :: starEach [] env) :
    Ev PG w (KK w) n env ex vs (.Call (.Name "commonpath" p) [e] [] pos) (.str (T (commonF (47 :: x) (47 :: y)))) :=
  Ev.call (by kernel_rfl) hx rfl rfl (EvS.cons he EvS.nil h1) ((commonpath_ok w x y hlx hly).up hn) ⟨_, _, h1⟩ (by decide)
end
section
variable {prog : Program} {w : World} {K : Frag} {n : Nat} {env : Env} {ex : Addr → Prop} {vs : Vars}
/-- a list cut, whatever the expression before the bracket -/
theorem EvN.cut {v : Expr} {lo hi : Option Expr} {p p' : Pos} {xs ys : List AV} {l u : Option Int} (hv : EvL prog w K n env ex vs v xs) (hl : EvP prog w K n env ex vs lo l) (hu : EvP prog w K n env ex vs hi u) (hx : xs.length ≤ sizeLine)
    (hy : ∀ (h : Heap) (ex : Addr → Prop) (us : List Value), Vals h ex us xs → ∃ ws : List Value, slicePick us.toArray l u none = ws.toArray ∧ Vals h ex ws ys) :
    EvN prog w K n env ex vs (.Subscript v (.Slice lo hi none p') p) ys := by
  intro A R s Q E S h
  refine Subscript_ (hv A R s _ _ S fun o us s₁ g₁ il q₁ => wpAny_Slice (hl A R s₁ _ _ (S.up g₁) fun vl s₂ g₂ q₂ => hu A R s₂ _ _ ((S.up g₁).up g₂) fun vu s₃ g₃ q₃ => ?_))
  have g23 := g₂.trans g₃
  have hlen := q₁.length
  rw [evalPart_none]
  have il₃ : s₃.heap.IsList o us.toArray := IsList.goes il fun o e => g23.ext _ o e
  have il₄ := il₃.push { cls := .type "slice", data := .fields #[vl, vu, .none] }
  obtain ⟨ws, e, qw⟩ := hy s₃.heap ex us (q₁.up g23.ext)
  refine wpAny_pure (tail_any (il₄.typeIs) list_getitem_lookup (wpAny_getItem_list_slice (lo := l) (hi := u) (st := none) il₄ (Heap.IsSliceOf.new ..) q₂ q₃ .none (by simp) ?_ (by simp; omega)) (ops := [.ref s₃.heap.objs.size, .ref o]) rfl)
  rw [e]
  have hsz : (s₃.heap.push { cls := .type "slice", data := .fields #[vl, vu, .none] }).objs.size = s₃.heap.objs.size + 1 := Heap.size_push ..
  have g : Grown s { s₃ with heap := (s₃.heap.push { cls := .type "slice", data := .fields #[vl, vu, .none] }).push { cls := .type "list", data := .seq ws.toArray } } :=
    ((g₁.trans g₂).trans g₃).trans ⟨⟨_, _, rfl⟩, fun b o e => push_none _ _ (push_none _ _ e)⟩
  have hnone : ∀ {h : Heap}, Ext h s₃.heap → h.get? (s₃.heap.objs.size + 1) = none := fun k => by
    cases e : Heap.get? _ (s₃.heap.objs.size + 1) with
    | none => rfl
    | some o => exact absurd (Heap.lt_size (k _ _ e)) (Nat.not_lt.mpr (Nat.le_succ _))
  show Q (.ref (s₃.heap.push { cls := .type "slice", data := .fields #[vl, vu, .none] }).objs.size) _
  rw [hsz]
  refine h (s₃.heap.objs.size + 1) ws _ g (hnone ((g₁.trans g₂).trans g₃).ext) ⟨_, by rw [← hsz]; exact Heap.get?_push_size _ rfl, rfl, ⟨0, rfl⟩, fun _ => ⟨rfl, rfl⟩⟩ ?_
  exact qw.moves (Ext.seq fun b o e => push_none _ _ (push_none _ _ e)) fun b o hb e q => q.elim hb fun q => by rw [q, hnone fun _ _ e => e] at e; cases e
end
section
variable {prog : Program} {w : World} {n : Nat} {ex : Addr → Prop}
theorem op_in_strs {x : Str} {ys : List Str} : OpOk prog w n ex (compareOp .In) (.str x) (.list (ys.map .str)) (.bool (ys.any (· == x))) := by
  intro A R s Q E u v T hu hv h
  cases hu
  cases hv with
  | list hex il q => exact in_list_strs il (StrsAre.of q) (h _ _ (Grown.refl s) (.bool _))
end
end Mine

end T_QL

section T_QA
open PySem PySem.W PyProof.Rows PySem.Calls PySem.Spec
set_option linter.unusedVariables false
set_option linter.unusedSimpArgs false
set_option maxRecDepth 100000
namespace Mine
local macro_rules | `(tactic| walk_at "d.mem") => `(tactic| first | (with_reducible exact List.mem_cons_self) | ((with_reducible refine' List.mem_cons_of_mem _ ?_); walk_at "d.mem"))
local macro_rules | `(tactic| walk_at "d.upd") => `(tactic| first | (with_reducible exact Upd.head) | ((with_reducible refine' Upd.tail ?hu); (case hu => walk_at "d.upd")))
local macro_rules | `(tactic| walk_at "d.meth") => `(tactic| (unfold MethTree; exact rfl))
local macro_rules | `(tactic| walk_at "d.kind") => `(tactic| (refine' Kinds.get (by assumption) ?_; kernel_rfl))
local macro_rules | `(tactic| walk_at "d.num") => `(tactic| first | assumption | decide | omega | (simp only [sizeLine_eq] at *; omega))
local macro_rules | `(tactic| walk_at "d.op") => `(tactic| first
  | (with_reducible exact op_add_int) | (with_reducible exact op_sub_int) | (with_reducible exact op_eq_str) | (with_reducible exact op_ne_str) | (with_reducible exact op_eq_int) | (with_reducible exact op_ne_int)
  | (with_reducible exact op_lt_int) | (with_reducible exact op_le_int) | (with_reducible exact op_gt_int) | (with_reducible exact op_iadd_int) | (with_reducible exact op_isub_int)
  | ((with_reducible refine' op_add_str ?_); walk_at "d.num") | ((with_reducible refine' op_mul_int ?_); mul_fits))
local macro_rules | `(tactic| walk_at "d.tru") => `(tactic| first | (with_reducible exact tru_bool) | (with_reducible exact tru_none) | (with_reducible exact tru_int) | ((with_reducible refine' tru_str ?_); walk_at "d.num"))
local macro_rules | `(tactic| walk_at "d.ev") => `(tactic| first
  | (with_reducible exact Ev.cint) | (with_reducible exact Ev.cstr) | (with_reducible exact Ev.cbool) | (with_reducible exact Ev.cnone)
  | ((with_reducible refine' Ev.name ?hm ?hd); (case hd => decide); (case hm => walk_at "d.mem"))
  | ((with_reducible refine' Ev.op ?ha ?hb ?ho); (case ha => walk_at "d.ev"); (case hb => walk_at "d.ev"); (case ho => walk_at "d.op"))
  | ((with_reducible refine' Ev.cmp ?ha ?hb ?ho ?hm); (case ha => walk_at "d.ev"); (case hb => walk_at "d.ev"); (case ho => walk_at "d.op"); (case hm => with_unfolding_all rfl))
  | ((with_reducible refine' Ev.lower ?ha ?hn ?hm); (case ha => walk_at "d.ev"); (case hn => walk_at "d.num"); (case hm => walk_at "d.meth"))
  | ((with_reducible refine' Ev.upper ?ha ?hn ?hm); (case ha => walk_at "d.ev"); (case hn => walk_at "d.num"); (case hm => walk_at "d.meth"))
  | ((with_reducible refine' Ev.isupper ?ha ?hm); (case ha => walk_at "d.ev"); (case hm => walk_at "d.meth"))
  | ((with_reducible refine' Ev.strSlice ?ha ?hl ?hu ?hn); (case ha => walk_at "d.ev"); (case hl => walk_at "d.part"); (case hu => walk_at "d.part"); (case hn => walk_at "d.num"))
  | ((with_reducible refine' Ev.itemL (EvL.name ?hm ?hd) ?hb ?h0 ?ha ?hn ?hs); (case hm => walk_at "d.mem"); (case hd => decide); (case hb => walk_at "d.ev"); (case h0 => walk_at "d.num"); (case ha => assumption); (case hn => walk_at "d.num"); (case hs => (intro _ _; with_unfolding_all rfl)))
  | ((with_reducible refine' Ev.strItem ?ha ?hb ?hn ?h1 ?h2 ?hs); (case ha => walk_at "d.ev"); (case hb => walk_at "d.ev"); (case hn => walk_at "d.num"); (case h1 => walk_at "d.num"); (case h2 => walk_at "d.num"); (case hs => (intro _ _; with_unfolding_all rfl)))
  | ((with_reducible refine' Ev.lenStr ?hn ?hk ?ha ?hb ?hs); (case hn => kernel_rfl); (case hk => walk_at "d.kind"); (case ha => walk_at "d.ev"); (case hb => walk_at "d.num"); (case hs => exact rfl))
  | ((with_reducible refine' Ev.min2 ?hn ?hk ?ha ?hb ?hs ?ht ?hu); (case hn => kernel_rfl); (case hk => walk_at "d.kind"); (case ha => walk_at "d.ev"); (case hb => walk_at "d.ev"); (case hs => exact rfl); (case ht => exact rfl); (case hu => exact rfl))
  | ((with_reducible refine' Ev.typeStr ?hn ?hk ?ha ?hs); (case hn => kernel_rfl); (case hk => walk_at "d.kind"); (case ha => walk_at "d.ev"); (case hs => exact rfl))
  | ((with_reducible refine' Ev.isSub ?hn ?hk ?ha ?hb ?hs ?ht ?hu); (case hn => kernel_rfl); (case hk => walk_at "d.kind"); (case ha => walk_at "d.ev"); (case hb => walk_at "d.ev"); (case hs => exact rfl); (case ht => exact rfl); (case hu => exact rfl))
  | ((with_reducible refine' Ev.notBytes ?hn ?hk ?ha ?hb ?hs ?ht ?hu); (case hn => kernel_rfl); (case hk => walk_at "d.kind"); (case ha => walk_at "d.ev"); (case hb => walk_at "d.ev"); (case hs => exact rfl); (case ht => exact rfl); (case hu => exact rfl))
  | ((with_reducible refine' Ev.startswith ?ha ?hb ?hm ?hs); (case ha => walk_at "d.ev"); (case hb => walk_at "d.ev"); (case hm => walk_at "d.meth"); (case hs => exact rfl))
  | ((with_reducible refine' Ev.endswith ?ha ?hb ?hm ?hs); (case ha => walk_at "d.ev"); (case hb => walk_at "d.ev"); (case hm => walk_at "d.meth"); (case hs => exact rfl))
  | ((with_reducible refine' Ev.rfind ?ha ?hb ?hm ?hs); (case ha => walk_at "d.ev"); (case hb => walk_at "d.ev"); (case hm => walk_at "d.meth"); (case hs => exact rfl))
  | ((with_reducible refine' Ev.neg ?ha); (case ha => walk_at "d.ev"))
  | ((with_reducible refine' Ev.tuple ?ha ?hn); (case ha => walk_at "d.evs"); (case hn => exact (by simp [sizeLine_eq])))
  | ((with_reducible refine' Ev.globalInt ?hn ?hk ?hd); (case hn => exact rfl); (case hk => walk_at "d.kind"); (case hd => decide))
  | ((with_reducible refine' Ev.builtin ?hn ?hv ?hk ?hm ?hd); (case hn => kernel_rfl); (case hv => walk_at "d.boot"); (case hk => walk_at "d.kind"); (case hm => decide); (case hd => decide)))
local macro_rules | `(tactic| walk_at "d.boot") => `(tactic| first | (with_reducible exact boot_str_) | (with_reducible exact boot_bytes_))
local macro_rules | `(tactic| walk_at "d.part") => `(tactic| first | (with_reducible exact EvP.nothing) | ((with_reducible refine' EvP.num ?ha); (case ha => walk_at "d.ev")) | ((with_reducible refine' EvP.nil ?ha); (case ha => walk_at "d.ev")))
local macro_rules | `(tactic| walk_at "d.evs") => `(tactic| first | (with_reducible exact EvS.nil) | ((with_reducible refine' EvS.cons ?ha ?hb ?hs); (case ha => walk_at "d.ev"); (case hb => walk_at "d.evs"); (case hs => exact rfl)))
local macro_rules | `(tactic| walk_at "d.te") => `(tactic| first
  | ((with_reducible refine' Te.cmp ?ha ?hb ?ho ?hm); (case ha => walk_at "d.ev"); (case hb => walk_at "d.ev"); (case ho => walk_at "d.op"); (case hm => with_unfolding_all rfl))
  | ((with_reducible refine' Te.not ?ha); walk_at "d.te")
  | ((with_reducible refine' Te.plain ?ha ?hb ?hc); (case ha => walk_at "d.ev"); (case hb => walk_at "d.tru"); (case hc => exact rfl)))
local macro_rules | `(tactic| walk_at "d.ret") => `(tactic| (refine' Ex.ret ?e ?_; (case e => walk_at "d.ev"); exact fun h v S q => ⟨S.keep, q.flat (by constructor)⟩))
local macro_rules | `(tactic| walk_at "d.asg") => `(tactic| (refine' Ex.assign ?e ?u ?_ ?hs; (case e => walk_at "d.ev"); (case u => walk_at "d.upd"); (case hs => exact rfl)))
local macro_rules | `(tactic| walk_at "d.aug") => `(tactic| (refine' Ex.augm ?m ?e ?o ?u ?_; (case m => walk_at "d.mem"); (case e => walk_at "d.ev"); (case o => walk_at "d.op"); (case u => walk_at "d.upd")))
local macro_rules | `(tactic| walk_at "d.fgt") => `(tactic| first | (with_reducible exact Fgt.nil) | ((with_reducible refine' Fgt.same ?hu); (case hu => walk_at "d.fgt")) | ((with_reducible refine' Fgt.free ?hu); (case hu => walk_at "d.fgt")))
local macro_rules | `(tactic| walk_at "d.range1") => `(tactic| ((with_reducible refine' EvR.of1 ?hn ?hk ?ha ?hs); (case hn => kernel_rfl); (case hk => walk_at "d.kind"); (case ha => walk_at "d.ev"); (case hs => exact rfl)))
local macro_rules | `(tactic| walk_at "d.op") => `(tactic| ((with_reducible refine' op_iadd_str ?_); walk_at "d.num"))
local macro_rules | `(tactic| walk_at "d.ev") => `(tactic| first
  | (with_reducible exact Ev.slash) | (with_reducible exact Ev.empty) | (with_reducible exact Ev.dot) | (with_reducible exact Ev.dotdot)
  | ((with_reducible refine' Ev.fspath ?hn ?hx ?he ?hs); (case hn => decide); (case hx => walk_at "d.kind"); (case he => walk_at "d.ev"); (case hs => exact rfl))
  | ((with_reducible refine' Ev.sep ?hn ?hx ?he ?hs); (case hn => decide); (case hx => walk_at "d.kind"); (case he => walk_at "d.ev"); (case hs => exact rfl))
  | ((with_reducible refine' Ev.rstrip1 ?ha ?hb ?hn ?hm ?hs); (case ha => walk_at "d.ev"); (case hb => walk_at "d.ev"); (case hn => walk_at "d.num"); (case hm => walk_at "d.meth"); (case hs => exact rfl))
  | ((with_reducible refine' Ev.splitS ?ha ?hb ?hn ?hm ?hs); (case ha => walk_at "d.ev"); (case hb => walk_at "d.ev"); (case hn => walk_at "d.num"); (case hm => walk_at "d.meth"); (case hs => exact rfl)))
def putF (c slip : Nat) : List Nat := if slip = 0 then [] else if slip < 3 then [55] else [c - 32]
def typedF (c slip place : Nat) : List Nat := [c, c].take place ++ putF c slip ++ (if slip < 2 then [c, c].drop place else [c, c].drop (place + 1))
theorem typed_fin : ([97, 98, 99].all fun c => [0, 1, 2, 3].all fun slip => [0, 1].all fun place =>
    (if slip < 3 then true else Txt.upper (Txt.item (T [c, c]) ((place : Nat) : Int)) == T (putF c slip)) &&
    (Txt.slice (T [c, c]) none (some ((place : Nat) : Int)) == T ([c, c].take place)) && (Txt.slice (T [c, c]) (some ((place : Nat) : Int)) none == T ([c, c].drop place)) && (Txt.slice (T [c, c]) (some (((place : Nat) : Int) + 1)) none == T ([c, c].drop (place + 1)))) = true := by decide +kernel
theorem typed_ok (w : World) (c slip place : Nat) (hc : c ∈ [97, 98, 99]) (h4 : slip < 4) (h2 : place < 2) : CallP PG w (KK w) 1 162 [.str (T [c, c]), .int (slip : Int), .int (place : Int)] (.str (T (typedF c slip place))) := by
  refine CallP.def (ps := ["name", "slip", "place"]) (ls := ["put", "behind"]) (fun _ => No) rfl rfl (by kernel_rfl) rfl rfl (by kernel_rfl) rfl rfl rfl (by decide +kernel) (by kernel_rfl) rfl (fun us h => match us, h with | [u, v, x], _ => rfl) (fun _ _ h => h) (fun _ _ h => h.elim) ?_
  intro env h₀ hk hcc B
  (try dsimp only at hk)
  have hL : (T [c, c]).length = 2 := T_length _
  have hsz := sizeLine_eq
  have hf := List.all_eq_true.mp (List.all_eq_true.mp (List.all_eq_true.mp typed_fin c hc) slip (by simp; omega)) place (by simp; omega)
  simp only [Bool.and_eq_true, beq_iff_eq] at hf
  obtain ⟨⟨⟨f1, f2⟩, f3⟩, f4⟩ := hf
  refine Ex.pre (S := StS (KK w) env h₀ No [("name", .val (.str (T [c, c]))), ("slip", .val (.int (slip : Int))), ("place", .val (.int (place : Int))), ("put", .free), ("behind", .free)]) ?_ (fun h q => q)
  refine' Ex.assign (Ev.itemL (xs := [.str (T []), .str (T [55]), .str (T [55]), .str (Txt.upper (Txt.item (T [c, c]) (place : Int)))]) (i := (slip : Int)) (a := .str (T (putF c slip))) (EvL.of (Ev.ofN (Ev.list ?x1 (by simp [sizeLine_eq])))) ?x2 (by omega) ?x3 (by simp [sizeLine_eq]) ?x4) ?u ?_ rfl
  case x1 =>
    rw [show T [55] = Str.ofString "7" by decide +kernel]
    refine' EvS.cons ?e1 (EvS.cons ?e2 (EvS.cons ?e3 (EvS.cons (Ev.upper (Ev.strItem ?n1 ?n2 (by omega) (by omega) (by omega) ?n3) ?n4 ?n5) EvS.nil rfl) rfl) rfl) rfl
    case e1 => walk_at "d.ev"
    case e2 => walk_at "d.ev"
    case e3 => walk_at "d.ev"
    case n1 => walk_at "d.ev"
    case n2 => walk_at "d.ev"
    case n3 => intro _ _; with_unfolding_all rfl
    case n4 =>
      have h1 : (Txt.item (T [c, c]) (place : Int)).length = 1 := rfl
      omega
    case n5 => walk_at "d.meth"
  case x2 => walk_at "d.ev"
  case x3 =>
    have : slip = 0 ∨ slip = 1 ∨ slip = 2 ∨ slip = 3 := by omega
    rcases this with rfl | rfl | rfl | rfl
    · rfl
    · rfl
    · rfl
    · exact congrArg (fun x => some (AV.str x)) (beq_iff_eq.mp f1)
  case x4 => intro _ _; with_unfolding_all rfl
  case u => walk_at "d.upd"
  refine' Ex.assign (Ev.if_ (b := decide (slip < 2)) (a := .str (T (if slip < 2 then [c, c].drop place else [c, c].drop (place + 1)))) (Te.to ?t1 ?t2) (fun hb => ?a1) (fun hb => ?a2)) ?u ?_ rfl
  case t1 => walk_at "d.te"
  case t2 => rw [Bool.eq_iff_iff]; simp only [decide_eq_true_eq]; omega
  case a1 =>
    rw [if_pos (of_decide_eq_true hb), ← f3]
    walk_at "d.ev"
  case a2 =>
    rw [if_neg (of_decide_eq_false hb), ← f4]
    walk_at "d.ev"
  case u => walk_at "d.upd"
  have hp : (putF c slip).length ≤ 1 := by unfold putF; split <;> (try split) <;> simp
  have ht : (T ([c, c].take place)).length + (T (putF c slip)).length ≤ sizeLine := by rw [T_length, T_length]; simp; omega
  have hb : (if slip < 2 then [c, c].drop place else [c, c].drop (place + 1)).length ≤ 2 := by split <;> (simp only [List.length_drop, List.length_cons, List.length_nil]; omega)
  have ht2 : (T ([c, c].take place) ++ T (putF c slip)).length + (T (if slip < 2 then [c, c].drop place else [c, c].drop (place + 1))).length ≤ sizeLine := by rw [T_append, T_length, T_length, List.length_append, List.length_take]; omega
  refine' Ex.ret (Ev.to (Ev.op (Ev.op ?e1 ?e2 (op_add_str ht)) ?e3 (op_add_str ht2)) ?e4) ?_
  case e1 =>
    rw [← f2]
    walk_at "d.ev"
  case e2 => walk_at "d.ev"
  case e3 => walk_at "d.ev"
  case e4 => exact (by rw [T_append, T_append]; rfl : AV.str (T ([c, c].take place) ++ T (putF c slip) ++ T (if slip < 2 then [c, c].drop place else [c, c].drop (place + 1))) = AV.str (T (typedF c slip place)))
  exact fun h v S q => ⟨S.keep, q.flat (by constructor)⟩
theorem spelled_ok (w : World) (names : List (List Nat)) (hl : (names.map (·.length)).sum + names.length ≤ 1000) : CallP PG w (KK w) 1 174 [.list (names.map fun x => .str (T x))] (.str (T (47 :: jn names))) := by
  refine CallP.def (ps := ["names"]) (ls := []) (fun _ => No) rfl rfl (by kernel_rfl) rfl rfl (by kernel_rfl) rfl rfl rfl (by decide +kernel) (by kernel_rfl) rfl (fun us h => match us, h with | [u], _ => rfl) (fun _ _ h => h) (fun _ _ h => h.elim) ?_
  intro env h₀ hk hcc B
  (try dsimp only at hk)
  have hsz := sizeLine_eq
  refine Ex.pre (S := StS (KK w) env h₀ No [("names", .val (.list (names.map fun x => .str (T x))))]) ?_ (fun h q => q)
  refine' Ex.ret (Ev.to (Ev.op ?e1 (Ev.joinL (x := T [47]) (ys := names.map T) ?e2 (EvL.to (EvL.of ?e3) ?e4) ?e5 ?e6 ?e7 rfl) (op_add_str ?e8)) ?e9) ?_
  case e1 => walk_at "d.ev"
  case e2 => walk_at "d.ev"
  case e3 => walk_at "d.ev"
  case e4 => rw [List.map_map]; rfl
  case e5 => rw [T_length]; simp
  case e6 =>
    rw [List.map_map, List.length_map, show ((fun x : Str => x.length) ∘ T) = fun x : List Nat => x.length from funext fun x => T_length x]
    omega
  case e7 => walk_at "d.meth"
  case e8 =>
    rw [join_T, T_length, T_length]
    have := jn_len names
    unfold wt at this
    simp; omega
  case e9 => exact (by rw [join_T, T_append]; rfl : AV.str (T [47] ++ Str.join (T [47]) (names.map T)) = AV.str (T (47 :: jn names)))
  exact fun h v S q => ⟨S.keep, q.flat (by constructor)⟩
end Mine

end T_QA

section T_QM
open PySem PySem.W PyProof.Rows PySem.Calls PySem.Spec
set_option linter.unusedVariables false
set_option linter.unusedSimpArgs false
set_option maxRecDepth 100000
namespace Mine
local macro_rules | `(tactic| walk_at "d.mem") => `(tactic| first | (with_reducible exact List.mem_cons_self) | ((with_reducible refine' List.mem_cons_of_mem _ ?_); walk_at "d.mem"))
local macro_rules | `(tactic| walk_at "d.upd") => `(tactic| first | (with_reducible exact Upd.head) | ((with_reducible refine' Upd.tail ?hu); (case hu => walk_at "d.upd")))
local macro_rules | `(tactic| walk_at "d.meth") => `(tactic| (unfold MethTree; exact rfl))
local macro_rules | `(tactic| walk_at "d.kind") => `(tactic| (refine' Kinds.get (by assumption) ?_; kernel_rfl))
local macro_rules | `(tactic| walk_at "d.num") => `(tactic| first | assumption | decide | omega | (simp only [sizeLine_eq] at *; omega))
local macro_rules | `(tactic| walk_at "d.op") => `(tactic| first
  | (with_reducible exact op_add_int) | (with_reducible exact op_sub_int) | (with_reducible exact op_eq_str) | (with_reducible exact op_ne_str) | (with_reducible exact op_eq_int) | (with_reducible exact op_ne_int)
  | (with_reducible exact op_lt_int) | (with_reducible exact op_le_int) | (with_reducible exact op_gt_int) | (with_reducible exact op_iadd_int) | (with_reducible exact op_isub_int)
  | ((with_reducible refine' op_add_str ?_); walk_at "d.num") | ((with_reducible refine' op_mul_int ?_); mul_fits))
local macro_rules | `(tactic| walk_at "d.tru") => `(tactic| first | (with_reducible exact tru_bool) | (with_reducible exact tru_none) | (with_reducible exact tru_int) | ((with_reducible refine' tru_str ?_); walk_at "d.num"))
local macro_rules | `(tactic| walk_at "d.ev") => `(tactic| first
  | (with_reducible exact Ev.cint) | (with_reducible exact Ev.cstr) | (with_reducible exact Ev.cbool) | (with_reducible exact Ev.cnone)
  | ((with_reducible refine' Ev.name ?hm ?hd); (case hd => decide); (case hm => walk_at "d.mem"))
  | ((with_reducible refine' Ev.op ?ha ?hb ?ho); (case ha => walk_at "d.ev"); (case hb => walk_at "d.ev"); (case ho => walk_at "d.op"))
  | ((with_reducible refine' Ev.cmp ?ha ?hb ?ho ?hm); (case ha => walk_at "d.ev"); (case hb => walk_at "d.ev"); (case ho => walk_at "d.op"); (case hm => with_unfolding_all rfl))
  | ((with_reducible refine' Ev.lower ?ha ?hn ?hm); (case ha => walk_at "d.ev"); (case hn => walk_at "d.num"); (case hm => walk_at "d.meth"))
  | ((with_reducible refine' Ev.upper ?ha ?hn ?hm); (case ha => walk_at "d.ev"); (case hn => walk_at "d.num"); (case hm => walk_at "d.meth"))
  | ((with_reducible refine' Ev.isupper ?ha ?hm); (case ha => walk_at "d.ev"); (case hm => walk_at "d.meth"))
  | ((with_reducible refine' Ev.strSlice ?ha ?hl ?hu ?hn); (case ha => walk_at "d.ev"); (case hl => walk_at "d.part"); (case hu => walk_at "d.part"); (case hn => walk_at "d.num"))
  | ((with_reducible refine' Ev.itemL (EvL.name ?hm ?hd) ?hb ?h0 ?ha ?hn ?hs); (case hm => walk_at "d.mem"); (case hd => decide); (case hb => walk_at "d.ev"); (case h0 => walk_at "d.num"); (case ha => assumption); (case hn => walk_at "d.num"); (case hs => (intro _ _; with_unfolding_all rfl)))
  | ((with_reducible refine' Ev.strItem ?ha ?hb ?hn ?h1 ?h2 ?hs); (case ha => walk_at "d.ev"); (case hb => walk_at "d.ev"); (case hn => walk_at "d.num"); (case h1 => walk_at "d.num"); (case h2 => walk_at "d.num"); (case hs => (intro _ _; with_unfolding_all rfl)))
  | ((with_reducible refine' Ev.lenStr ?hn ?hk ?ha ?hb ?hs); (case hn => kernel_rfl); (case hk => walk_at "d.kind"); (case ha => walk_at "d.ev"); (case hb => walk_at "d.num"); (case hs => exact rfl))
  | ((with_reducible refine' Ev.min2 ?hn ?hk ?ha ?hb ?hs ?ht ?hu); (case hn => kernel_rfl); (case hk => walk_at "d.kind"); (case ha => walk_at "d.ev"); (case hb => walk_at "d.ev"); (case hs => exact rfl); (case ht => exact rfl); (case hu => exact rfl))
  | ((with_reducible refine' Ev.typeStr ?hn ?hk ?ha ?hs); (case hn => kernel_rfl); (case hk => walk_at "d.kind"); (case ha => walk_at "d.ev"); (case hs => exact rfl))
  | ((with_reducible refine' Ev.isSub ?hn ?hk ?ha ?hb ?hs ?ht ?hu); (case hn => kernel_rfl); (case hk => walk_at "d.kind"); (case ha => walk_at "d.ev"); (case hb => walk_at "d.ev"); (case hs => exact rfl); (case ht => exact rfl); (case hu => exact rfl))
  | ((with_reducible refine' Ev.notBytes ?hn ?hk ?ha ?hb ?hs ?ht ?hu); (case hn => kernel_rfl); (case hk => walk_at "d.kind"); (case ha => walk_at "d.ev"); (case hb => walk_at "d.ev"); (case hs => exact rfl); (case ht => exact rfl); (case hu => exact rfl))
  | ((with_reducible refine' Ev.startswith ?ha ?hb ?hm ?hs); (case ha => walk_at "d.ev"); (case hb => walk_at "d.ev"); (case hm => walk_at "d.meth"); (case hs => exact rfl))
  | ((with_reducible refine' Ev.endswith ?ha ?hb ?hm ?hs); (case ha => walk_at "d.ev"); (case hb => walk_at "d.ev"); (case hm => walk_at "d.meth"); (case hs => exact rfl))
  | ((with_reducible refine' Ev.rfind ?ha ?hb ?hm ?hs); (case ha => walk_at "d.ev"); (case hb => walk_at "d.ev"); (case hm => walk_at "d.meth"); (case hs => exact rfl))
  | ((with_reducible refine' Ev.neg ?ha); (case ha => walk_at "d.ev"))
  | ((with_reducible refine' Ev.tuple ?ha ?hn); (case ha => walk_at "d.evs"); (case hn => exact (by simp [sizeLine_eq])))
  | ((with_reducible refine' Ev.globalInt ?hn ?hk ?hd); (case hn => exact rfl); (case hk => walk_at "d.kind"); (case hd => decide))
  | ((with_reducible refine' Ev.builtin ?hn ?hv ?hk ?hm ?hd); (case hn => kernel_rfl); (case hv => walk_at "d.boot"); (case hk => walk_at "d.kind"); (case hm => decide); (case hd => decide)))
local macro_rules | `(tactic| walk_at "d.boot") => `(tactic| first | (with_reducible exact boot_str_) | (with_reducible exact boot_bytes_))
local macro_rules | `(tactic| walk_at "d.part") => `(tactic| first | (with_reducible exact EvP.nothing) | ((with_reducible refine' EvP.num ?ha); (case ha => walk_at "d.ev")) | ((with_reducible refine' EvP.nil ?ha); (case ha => walk_at "d.ev")))
local macro_rules | `(tactic| walk_at "d.evs") => `(tactic| first | (with_reducible exact EvS.nil) | ((with_reducible refine' EvS.cons ?ha ?hb ?hs); (case ha => walk_at "d.ev"); (case hb => walk_at "d.evs"); (case hs => exact rfl)))
local macro_rules | `(tactic| walk_at "d.te") => `(tactic| first
  | ((with_reducible refine' Te.cmp ?ha ?hb ?ho ?hm); (case ha => walk_at "d.ev"); (case hb => walk_at "d.ev"); (case ho => walk_at "d.op"); (case hm => with_unfolding_all rfl))
  | ((with_reducible refine' Te.not ?ha); walk_at "d.te")
  | ((with_reducible refine' Te.plain ?ha ?hb ?hc); (case ha => walk_at "d.ev"); (case hb => walk_at "d.tru"); (case hc => exact rfl)))
local macro_rules | `(tactic| walk_at "d.ret") => `(tactic| (refine' Ex.ret ?e ?_; (case e => walk_at "d.ev"); exact fun h v S q => ⟨S.keep, q.flat (by constructor)⟩))
local macro_rules | `(tactic| walk_at "d.asg") => `(tactic| (refine' Ex.assign ?e ?u ?_ ?hs; (case e => walk_at "d.ev"); (case u => walk_at "d.upd"); (case hs => exact rfl)))
local macro_rules | `(tactic| walk_at "d.aug") => `(tactic| (refine' Ex.augm ?m ?e ?o ?u ?_; (case m => walk_at "d.mem"); (case e => walk_at "d.ev"); (case o => walk_at "d.op"); (case u => walk_at "d.upd")))
local macro_rules | `(tactic| walk_at "d.fgt") => `(tactic| first | (with_reducible exact Fgt.nil) | ((with_reducible refine' Fgt.same ?hu); (case hu => walk_at "d.fgt")) | ((with_reducible refine' Fgt.free ?hu); (case hu => walk_at "d.fgt")))
local macro_rules | `(tactic| walk_at "d.range1") => `(tactic| ((with_reducible refine' EvR.of1 ?hn ?hk ?ha ?hs); (case hn => kernel_rfl); (case hk => walk_at "d.kind"); (case ha => walk_at "d.ev"); (case hs => exact rfl)))
local macro_rules | `(tactic| walk_at "d.op") => `(tactic| ((with_reducible refine' op_iadd_str ?_); walk_at "d.num"))
local macro_rules | `(tactic| walk_at "d.ev") => `(tactic| first
  | (with_reducible exact Ev.slash) | (with_reducible exact Ev.empty) | (with_reducible exact Ev.dot) | (with_reducible exact Ev.dotdot)
  | ((with_reducible refine' Ev.fspath ?hn ?hx ?he ?hs); (case hn => decide); (case hx => walk_at "d.kind"); (case he => walk_at "d.ev"); (case hs => exact rfl))
  | ((with_reducible refine' Ev.sep ?hn ?hx ?he ?hs); (case hn => decide); (case hx => walk_at "d.kind"); (case he => walk_at "d.ev"); (case hs => exact rfl))
  | ((with_reducible refine' Ev.rstrip1 ?ha ?hb ?hn ?hm ?hs); (case ha => walk_at "d.ev"); (case hb => walk_at "d.ev"); (case hn => walk_at "d.num"); (case hm => walk_at "d.meth"); (case hs => exact rfl))
  | ((with_reducible refine' Ev.splitS ?ha ?hb ?hn ?hm ?hs); (case ha => walk_at "d.ev"); (case hb => walk_at "d.ev"); (case hn => walk_at "d.num"); (case hm => walk_at "d.meth"); (case hs => exact rfl)))
def near (t : List Nat) : List (List Nat) := [[97, 97], [98, 98], [99, 99]].filter fun l => decide (lev t l 2 ≤ 2)
def mendS (t : List Nat) : Str := if t = [] ∨ t = [46] ∨ t = [46, 46] then T t else Str.join (T [43]) ((near t).map T)
def nearAV (t : List Nat) : AV → Bool
  | .str s => decide (lev t s.cps.toList 2 ≤ 2)
  | _ => false
theorem near_av (t : List Nat) : (([AV.str (T [97, 97]), .str (T [98, 98]), .str (T [99, 99])].filter (nearAV t)).map id) = ((near t).map T).map .str := by
  unfold near
  simp only [List.filter_cons, List.filter_nil, nearAV, show ∀ l, (T l).cps.toList = l from fun l => by simp [T]]
  split <;> split <;> split <;> rfl
theorem any_marks (t : List Nat) : ([[], [46], [46, 46]].map T).any (· == T t) = decide (t = [] ∨ t = [46] ∨ t = [46, 46]) := by
  rw [Bool.eq_iff_iff, List.any_eq_true, decide_eq_true_iff]
  constructor
  · rintro ⟨x, hx, e⟩
    obtain ⟨y, hy, rfl⟩ := List.mem_map.mp hx
    have := T_inj.mp (beq_iff_eq.mp e)
    subst this
    simpa only [List.mem_cons, List.not_mem_nil, or_false] using hy
  · intro h
    exact ⟨T t, List.mem_map.mpr ⟨t, by simpa only [List.mem_cons, List.not_mem_nil, or_false] using h, rfl⟩, beq_self_eq_true _⟩
theorem mended_ok (w : World) (t : List Nat) (hl : t.length ≤ 1000) : CallP PG w (KK w) 4 167 [.str (T t)] (.str (mendS t)) := by
  refine CallP.gen (ps := ["typed"]) (ls := []) (as' := [.str (T t)]) (fun _ => No) rfl rfl (by kernel_rfl) rfl rfl rfl rfl rfl (by decide +kernel) (by kernel_rfl) rfl ?bind (fun _ _ h => h) (fun _ _ h => h.elim) ?_
  case bind => exact BindOk.plain fun us h => match us, h with | [u], _ => rfl
  intro env h₀ hk hc B
  (try dsimp only at hk)
  have ctyped := hc "typed" (by kernel_rfl)
  have hsz := sizeLine_eq
  have hL := T_length t
  refine Ex.pre (S := StS (KK w) env h₀ No [("typed", .val (.str (T t)))]) ?_ (fun h q => q)
  have e3 : AV.list (([[], [46], [46, 46]].map T).map .str) = .list [.str (T []), .str (T [46]), .str (T [46, 46])] := rfl
  refine Ex.ite (b := decide (t = [] ∨ t = [46] ∨ t = [46, 46])) ?t ?z
  case t =>
    refine' Te.to (Te.cmp ?a1 (Ev.to (Ev.ofN (Ev.list (as := [.str (T []), .str (T [46]), .str (T [46, 46])]) ?a2 (by simp [sizeLine_eq]))) e3.symm) op_in_strs ?mk) ?eq
    case a1 => walk_at "d.ev"
    case a2 => walk_at "d.evs"
    case mk => with_unfolding_all rfl
    case eq => exact any_marks t
  case z =>
  by_cases h : t = [] ∨ t = [46] ∨ t = [46, 46]
  · simp only [decide_eq_true h, if_true]
    rw [show mendS t = T t from if_pos h]
    walk_at "d.ret"
  · simp only [decide_eq_false h, Bool.false_eq_true, if_false]
    refine' Ex.ret (Ev.to (Ev.joinL (x := T [43]) (ys := (near t).map T) ?j1 (EvL.of (Ev.ofN (EvN.to (EvN.comp (xs := [.str (T [97, 97]), .str (T [98, 98]), .str (T [99, 99])]) (capt := [("typed", .val (.str (T t)))]) (nearAV t) id ?fc ?cell rfl ?nm rfl (EvI.list (Ev.ofN (Ev.list ?lst (by simp [sizeLine_eq])))) (by simp [sizeLine_eq]) ?capt ?ifs ?elt (by intro _; rfl)) (near_av t)))) ?j5 ?j6 ?j7 rfl) ?j8) ?_
    case j1 =>
      rw [show T [43] = Str.ofString "+" by decide +kernel]
      walk_at "d.ev"
    case fc => intro z hz; simp at hz; subst hz; exact ctyped
    case cell => decide
    case nm => decide
    case lst =>
      rw [show T [97, 97] = Str.ofString "aa" by decide +kernel, show T [98, 98] = Str.ofString "bb" by decide +kernel, show T [99, 99] = Str.ofString "cc" by decide +kernel]
      walk_at "d.evs"
    case capt =>
      intro p hp
      rw [List.mem_singleton.mp hp]
      refine ⟨?_, rfl, hk.get (by kernel_rfl)⟩
      walk_at "d.mem"
    case ifs =>
      intro cl C D i a ha hk'
      obtain ⟨l, hll, rfl⟩ : ∃ l : List Nat, l.length = 2 ∧ a = .str (T l) := by
        have := List.mem_of_getElem? ha
        simp only [List.mem_cons, List.not_mem_nil, or_false] at this
        rcases this with rfl | rfl | rfl
        · exact ⟨[97, 97], rfl, rfl⟩
        · exact ⟨[98, 98], rfl, rfl⟩
        · exact ⟨[99, 99], rfl, rfl⟩
      refine' Ifs.one (Te.to (Te.cmp (Ev.levC (x := t) (y := l) (m := 2) (by decide) ?k ?a1 ?a2 ?a3 hl (by omega) rfl rfl rfl) ?a4 op_le_int ?mk) ?eq)
      case k => walk_at "d.kind"
      case a1 => walk_at "d.ev"
      case a2 => walk_at "d.ev"
      case a3 => walk_at "d.ev"
      case a4 => walk_at "d.ev"
      case mk => with_unfolding_all rfl
      case eq => rfl
    case elt =>
      intro cl C D i a ha _ hk' hcl
      rw [id]
      walk_at "d.ev"
    case j5 => rw [T_length]; simp
    case j6 =>
      have h1 : (near t).length ≤ 3 := List.length_filter_le _ _
      have h2 : ∀ l ∈ near t, l.length ≤ 2 := by
        intro l hll
        have := (List.mem_filter.mp hll).1
        simp only [List.mem_cons, List.not_mem_nil, or_false] at this
        rcases this with rfl | rfl | rfl <;> decide
      rw [List.map_map, List.length_map, show ((fun x : Str => x.length) ∘ T) = fun x : List Nat => x.length from funext fun x => T_length x]
      have : ∀ ls : List (List Nat), (∀ l ∈ ls, l.length ≤ 2) → (ls.map fun x => x.length).sum ≤ 2 * ls.length := by
        intro ls
        induction ls with
        | nil => intro _; simp
        | cons a r ih =>
          intro hh
          have h3 := hh a (by simp)
          have h4 := ih fun l hl => hh l (by simp [hl])
          simp only [List.map_cons, List.sum_cons, List.length_cons]; omega
      have := this _ h2
      omega
    case j7 => walk_at "d.meth"
    case j8 => exact (congrArg AV.str (if_neg h).symm : AV.str (Str.join (T [43]) ((near t).map T)) = .str (mendS t))
    exact fun h v S q => ⟨S.keep, q.flat (by constructor)⟩
end Mine

end T_QM

section T_QB
open PySem PySem.W PyProof.Rows PySem.Calls PySem.Spec
open PySem.SeqAt
set_option linter.unusedVariables false
set_option linter.unusedSimpArgs false
set_option maxRecDepth 100000
namespace Mine
section
variable {prog : Program} {w : World} {K : Frag} {n : Nat} {env : Env} {h₀ : Heap} {ex : Addr → Prop} {vs vs₁ vs₂ vs' : Vars} {S S' : Heap → Prop} {Q : Flow → Heap → Prop} {rest : List Stmt}
/-- x takes a value; the lists stay -/
theorem store_valK {A : Around} {s : Shared} {QQ : Unit → Shared → Prop} {E : Value → Shared → Prop} {x : Str} {v : Value} {a : AV} (S : StS K env h₀ ex vs s.heap) (u : Upd x (.val a) vs vs') (q : Val s.heap ex v a)
    (h : ∀ h' tk, StS K env h₀ ex vs' h' → Kept env ex s.heap h' → (∀ l p us, ListAt s.heap l p us → ListAt h' l p us) → QQ () { s with heap := h', toks := tk }) : wpAny (model prog w) A (storeName env x v) QQ E s := by
  obtain ⟨old, hm⟩ := u.has
  have ho : ∀ l' p' xs', Slot.val a = .own l' p' xs' → h₀.get? l' = none ∧ ∀ y q ys, (y, Slot.own l' q ys) ∈ vs → y = x := fun _ _ _ e => by cases e
  rcases S.kinds _ hm with hk | ⟨hk, c, hc⟩
  · obtain ⟨m, hn⟩ := S.ns
    refine wpAny_storeName_local hk hn (fun h' hn' hs => ?_) (fn_not S.e.fn)
    have kk : Kept env ex s.heap h' := fun b o hb _ _ e => (hs.2 b hb).trans e
    refine h h' _ (S.store_local hk hn hn' hs u ⟨v, .loc _ hk hn' (by simp), q.moves (S.seqKept kk) fun _ _ n _ => n⟩ ho) kk fun l p us q => ?_
    obtain ⟨o, ho1, hc1, ⟨n1, hd1⟩, hn1⟩ := q
    exact ⟨o, (hs.2 l (S.seqNe ho1 hd1).1).trans ho1, hc1, ⟨n1, hd1⟩, hn1⟩
  · obtain ⟨_, v₀, hv⟩ := S.cells x c hc
    refine wpAny_storeName_cell S.e.fn hk hc hv fun h' hn' hs => ?_
    have kk : Kept env ex s.heap h' := fun b o _ hb _ e => (hs.2 b (hb x c hc)).trans e
    refine h h' s.toks (S.store_cell hk hc hn' hs u ⟨v, .cel c hk hc hn', q.moves (S.seqKept kk) fun _ _ n _ => n⟩ ho) kk fun l p us q => ?_
    obtain ⟨o, ho1, hc1, ⟨n1, hd1⟩, hn1⟩ := q
    exact ⟨o, (hs.2 l ((S.seqNe ho1 hd1).2 x c hc)).trans ho1, hc1, ⟨n1, hd1⟩, hn1⟩
/-- x, y, z, u = .., [..], .., ..; y to be the frame's own -/
theorem Ex.own4 {x y z u : Str} {px py pz pu tp vp pos : Pos} {k kk : Nat} {e1 e2 e3 e4 : Expr} {a1 a3 a4 : AV} {ys : List AV} {V1 : Vars} {V2 V3 V4 : Addr → Vars} (h1 : Ev prog w K n env ex vs e1 a1) (h2 : EvN prog w K n env ex vs e2 ys)
    (h3 : ∀ l, Ev prog w K n env (Add ex l) vs e3 a3) (h4 : ∀ l, Ev prog w K n env (Add ex l) vs e4 a4)
    (u1 : Upd x (.val a1) vs V1) (u2 : ∀ l, Upd y (.own l true ys) V1 (V2 l)) (u3 : ∀ l, Upd z (.val a3) (V2 l) (V3 l)) (u4 : ∀ l, Upd u (.val a4) (V3 l) (V4 l))
    (hr : ∀ l, Ex prog w n env (Add ex l) (StS K env h₀ (Add ex l) (V4 l)) rest Q)
    (hw : swappedStores [.Tuple [.Name x px, .Name y py, .Name z pz, .Name u pu] k tp] (.Tuple [e1, e2, e3, e4] kk vp) env = pure none)
    (s1 : starEach [e1, e2, e3, e4] env = (false, eval e1 env) :: starEach [e2, e3, e4] env) (s2 : starEach [e2, e3, e4] env = (false, eval e2 env) :: starEach [e3, e4] env)
    (s3 : starEach [e3, e4] env = (false, eval e3 env) :: starEach [e4] env) (s4 : starEach [e4] env = (false, eval e4 env) :: starEach [] env)
    (hs : swapsWithSole [.Tuple [.Name x px, .Name y py, .Name z pz, .Name u pu] k tp] (.Tuple [e1, e2, e3, e4] kk vp) pos.line env = pure false := by rfl) : Ex prog w n env ex (StS K env h₀ ex vs) (.Assign [.Tuple [.Name x px, .Name y py, .Name z pz, .Name u pu] k tp] (.Tuple [e1, e2, e3, e4] kk vp) pos :: rest) Q := by
  intro A R s E hS
  refine wpAny_execs_cons (Assign_Tuple ?_ hs hw)
  refine wpAny_Tuple (wpAny_items_cons (h1 A R s _ _ hS.e fun v1 s₁ g₁ q1 => ?_) s1)
  obtain ⟨⟨h₁, tk₁, rfl⟩, k₁⟩ := g₁
  dsimp only at k₁ q1
  have S₁ := hS.up k₁
  refine wpAny_items_cons (h2 A R { s with heap := h₁, toks := tk₁ } _ _ S₁.e fun l us s₂ g₂ hl il q2 => ?_) s2
  obtain ⟨⟨h₂, tk₂, rfl⟩, k₂⟩ := g₂
  dsimp only at k₂ hl il q2
  obtain ⟨ol, hol, _⟩ := id il
  have S₂ := S₁.addOwn k₂ hl hol
  refine wpAny_items_cons (h3 l A R { s with heap := h₂, toks := tk₂ } _ _ S₂.e fun v3 s₃ g₃ q3 => ?_) s3
  obtain ⟨⟨h₃, tk₃, rfl⟩, k₃⟩ := g₃
  dsimp only at k₃ q3
  have S₃ := S₂.up k₃
  refine wpAny_items_cons (h4 l A R { s with heap := h₃, toks := tk₃ } _ _ S₃.e fun v4 s₄ g₄ q4 => wpAny_items_nil ⟨by simp [sizeLine_eq], ?_⟩) s4
  obtain ⟨⟨h₄, tk₄, rfl⟩, k₄⟩ := g₄
  dsimp only at k₄ q4 ⊢
  have S₄ := S₃.up k₄
  have k₅ : Ext h₄ (h₄.push { cls := .type "tuple", data := .seq [v1, Value.ref l, v3, v4].toArray }) := push_none
  have hT := Heap.get?_push_size h₄ (o := { cls := .type "tuple", data := .seq [v1, Value.ref l, v3, v4].toArray }) rfl
  generalize h₄.push { cls := .type "tuple", data := .seq [v1, Value.ref l, v3, v4].toArray } = h₅ at *
  refine wpAny_assign_Tuple R.1 (items := #[v1, Value.ref l, v3, v4]) ⟨_, hT, rfl, 0, rfl⟩ rfl rfl fun h₆ he₆ => ?_
  have k₆ : Ext h₅ h₆ := fun b o e => he₆ b o (Nat.ne_of_lt (Heap.lt_size e)) e
  have k46 : Ext h₄ h₆ := fun b o e => k₆ b o (k₅ b o e)
  have k36 : Ext h₃ h₆ := fun b o e => k46 b o (k₄ b o e)
  have k26 : Ext h₂ h₆ := fun b o e => k36 b o (k₃ b o e)
  have S₆ := S₄.up k46
  have il6 : ListAt h₆ l true us := il.goes fun o e => k26 _ o e
  have q1' : Val h₆ (Add ex l) v1 a1 := (q1.moves (Ext.seq k₂) (addNot hl)).up k26
  have q2' : Vals h₆ (Add ex l) us ys := q2.up k26
  have q3' : Val h₆ (Add ex l) v3 a3 := q3.up k36
  have q4' : Val h₆ (Add ex l) v4 a4 := q4.up k46
  have hl0 : s.heap.get? l = none := by
    cases e : s.heap.get? l with
    | none => rfl
    | some o => have := k₁ _ _ e; rw [hl] at this; cases this
  have hno : ∀ y q ys, (y, Slot.own l q ys) ∈ vs → False := fun y q ys hm => by
    obtain ⟨_, _, us', ⟨o', ho', _⟩, _⟩ := hS.e.holds _ hm
    rw [hl0] at ho'; cases ho'
  have hnone : h₀.get? l = none := hS.none0 hl0
  show wpAny _ A (do holding _ (PySem.assign (.Name x px) env v1); assignInOrder ((assignEach [.Name y py, .Name z pz, .Name u pu] env).map (·.2)) [.ref l, v3, v4]) _ _ _
  refine wpAny_bind (wpAny_holding (wpAny_assign_Name (store_valK (s := { s with heap := h₆, toks := tk₄ }) S₆ u1 q1' fun h₇ tk₇ S₇ k₇ ilk₇ => ?_)))
  have q2₇ := q2'.moves (S₆.seqKept k₇) fun _ _ n _ => n
  have q3₇ := q3'.moves (S₆.seqKept k₇) fun _ _ n _ => n
  have q4₇ := q4'.moves (S₆.seqKept k₇) fun _ _ n _ => n
  show wpAny _ A (do holding _ (PySem.assign (.Name y py) env (.ref l)); assignInOrder ((assignEach [.Name z pz, .Name u pu] env).map (·.2)) [v3, v4]) _ _ _
  refine wpAny_bind (wpAny_holding (wpAny_assign_Name (store_own (s := { s with heap := h₇, toks := tk₇ }) S₇ (u2 l) (.inr rfl) (ilk₇ _ _ _ il6) q2₇ hnone (fun y' q' zs hm => ?_) fun h₈ tk₈ S₈ k₈ ilk₈ => ?_)))
  · rcases u1.mem hS.names _ hm with e | e
    · cases e
    · exact (hno y' q' zs e.1).elim
  have q3₈ := q3₇.moves (S₇.seqKept k₈) fun _ _ n _ => n
  have q4₈ := q4₇.moves (S₇.seqKept k₈) fun _ _ n _ => n
  show wpAny _ A (do holding _ (PySem.assign (.Name z pz) env v3); assignInOrder ((assignEach [.Name u pu] env).map (·.2)) [v4]) _ _ _
  refine wpAny_bind (wpAny_holding (wpAny_assign_Name (store_val (s := { s with heap := h₈, toks := tk₈ }) S₈ (u3 l) q3₈ fun h₉ tk₉ S₉ k₉ => ?_)))
  have q4₉ := q4₈.moves (S₈.seqKept k₉) fun _ _ n _ => n
  show wpAny _ A (do holding _ (PySem.assign (.Name u pu) env v4); assignInOrder [] []) _ _ _
  refine wpAny_bind (wpAny_holding (wpAny_assign_Name (store_val (s := { s with heap := h₉, toks := tk₉ }) S₉ (u4 l) q4₉ fun h₁₀ tk₁₀ S₁₀ k₁₀ => wpAny_pure ?_)))
  have kk : Kept env ex s.heap h₁₀ := fun b o b1 b2 b3 e => by
    have b4 : ¬ Add ex l b := fun q => q.elim b3 fun q => by rw [q, hl0] at e; cases e
    exact k₁₀ b o b1 b2 b4 (k₉ b o b1 b2 b4 (k₈ b o b1 b2 b4 (k₇ b o b1 b2 b4 (k26 b o (k₂ b o (k₁ b o e))))))
  refine wpAny_mono (hr l A R { s with heap := h₁₀, toks := tk₁₀ } E S₁₀) (fun f s' ⟨⟨h'', tk', e'⟩, k', q'⟩ => ⟨⟨h'', tk', by rw [e']⟩, ?_, q'⟩) fun _ _ x => x
  intro b o b1 b2 b3 e
  have b4 : ¬ Add ex l b := fun q => q.elim b3 fun q => by rw [q, hl0] at e; cases e
  exact k' b o b1 b2 b4 (kk b o b1 b2 b3 e)
end
/-! ## sums of ints -/
theorem preSum_ints (xs : List Int) : ∀ i, i ≤ xs.length → preSum (fun i => xs.getD i 0) i = (xs.take i).sum := by
  intro i
  induction i with
  | zero => intro _; simp [preSum]
  | succ i ih =>
    intro hi
    have hlt : i < xs.length := by omega
    show preSum _ i + xs.getD i 0 = _
    rw [ih (by omega), List.take_add_one, List.getElem?_eq_getElem hlt, List.getD_eq_getElem?_getD, List.getElem?_eq_getElem hlt]
    rw [List.sum_append]; simp only [Option.getD_some, Option.toList_some, List.sum_cons, List.sum_nil, Int.add_zero]
theorem call_sum_ints {prog : Program} {w : World} {A : Around} {E : Value → Shared → Prop} {s : Shared} {Q : Value → Shared → Prop} {l : Addr} {us : List Value} {xs : List Int} {h₁ : Heap} {ex : Addr → Prop} (hh : A.handled = none) (il : s.heap.IsList l us.toArray) (q : Vals h₁ ex us (xs.map .int))
    (hQ : ∀ h' tk t, Ext s.heap h' → Q (.int xs.sum t) { s with heap := h', toks := tk }) : wpAny (model prog w) A (call (.builtin "sum") [.ref l]) Q E s := by
  refine call_sum_walkG (wpAny_pyIter_list il ?_)
  obtain ⟨ol, hol, hcl, nl, hdl⟩ := id il
  have hlen := q.length
  simp only [List.length_map] at hlen
  have W := Walks.list (prog := prog) (w := w) (A := A.in1) hh s.heap.objs.size l (Nat.ne_of_lt (Heap.lt_size hol)) us.toArray
  refine ⟨s.heap.objs.size, _, _, us.toArray.size, _, _, fun i => xs.getD i 0, rfl, W, ⟨⟨_, Heap.get?_push_size _ rfl, rfl, rfl⟩, il.push _⟩, fun b hb => ?_, fun i v hv => ?_, fun h' tk t' hk => ?_⟩
  · show b < (s.heap.push _).objs.size
    rw [Heap.size_push]
    rcases List.mem_cons.mp hb with e | hm
    · rw [e]; exact Nat.lt_succ_self _
    · rw [List.mem_singleton.mp hm]; exact Nat.lt_succ_of_lt (Heap.lt_size hol)
  · obtain ⟨a, ha, qa⟩ := q.get' (i := i) (v := v) (by simpa using hv)
    simp only [List.getElem?_map, Option.map_eq_some_iff] at ha
    obtain ⟨b, hb, rfl⟩ := ha
    cases qa with
    | int _ t => exact ⟨t, by show Value.int b t = Value.int (xs.getD i 0) t; rw [List.getD_eq_getElem?_getD, hb]; rfl⟩
  · have e : preSum (fun i => xs.getD i 0) us.toArray.size = xs.sum := by
      rw [List.size_toArray, hlen, preSum_ints xs _ (Nat.le_refl _), List.take_length]
    rw [e]
    exact hQ h' tk t' fun b o e => hk b o (fun hm => by rw [List.mem_singleton.mp hm, no_next] at e; cases e) (push_none _ _ e)
theorem Ev.sumI {prog : Program} {w : World} {K : Frag} {n : Nat} {env : Env} {ex : Addr → Prop} {vs : Vars} {p pos : Pos} {e : Expr} {xs : List Int} (hn : nsIn K mainGlobals "sum" = some none) (hx : env.kindOf "sum" = some .globalImplicit) (he : EvL prog w K n env ex vs e (xs.map .int)) (h1 : starEach [e] env = (false, eval e env) :: starEach [] env) :
    Ev prog w K n env ex vs (.Call (.Name "sum" p) [e] [] pos) (.int xs.sum) :=
  Ev.bcallL hn (by decide +kernel : bootBuiltins "sum" = some (.builtin "sum")) hx he (fun A R s l us Q E T il q h => call_sum_ints R.1 il q fun h' tk t k => h _ _ (Grown.of k) (.int _ _)) h1
end Mine

end T_QB

section T_Q2
open PySem PySem.W PyProof.Rows PySem.Calls PySem.Spec
set_option linter.unusedVariables false
set_option linter.unusedSimpArgs false
set_option maxRecDepth 100000
namespace Mine
/-! ## law 2's stack of folders -/
def costF (slip : Nat) : Int := if slip = 0 then 0 else if slip = 3 then 1 else 2
structure It where
  c : Nat
  slip : Nat
  place : Nat
def It.meant (i : It) : List Nat := [i.c, i.c]
def It.typed (i : It) : List Nat := typedF i.c i.slip i.place
def It.cost (i : It) : Int := costF i.slip
structure It.ok (i : It) : Prop where
  c : i.c ∈ [97, 98, 99]
  slip : i.slip < 4
  place : i.place < 2
def itOf (m : Nat) : It := ⟨97 + m % 3, m / 3 % 4, m / 3 / 4 % 2⟩
theorem itOf_ok (m : Nat) : (itOf m).ok := by
  refine ⟨?_, Nat.mod_lt _ (by decide), Nat.mod_lt _ (by decide)⟩
  have := Nat.mod_lt m (show 0 < 3 by decide)
  show 97 + m % 3 ∈ _
  have : m % 3 = 0 ∨ m % 3 = 1 ∨ m % 3 = 2 := by omega
  rcases this with e | e | e <;> rw [e] <;> decide
/-- what an item's facts are, looked at -/
def itLook (c slip place : Nat) : Bool :=
  (mendS (typedF c slip place) == T [c, c]) && !(typedF c slip place).contains 47 && (typedF c slip place != []) && (typedF c slip place != [46]) && (typedF c slip place != [46, 46]) &&
  decide ((typedF c slip place).length ≤ 3) && ((typedF c slip place == [c, c]) == (costF slip == 0))
set_option maxHeartbeats 1000000 in
theorem itLook_97 : ([0, 1, 2, 3].all fun slip => [0, 1].all fun place => itLook 97 slip place) = true := by decide +kernel
set_option maxHeartbeats 1000000 in
theorem itLook_98 : ([0, 1, 2, 3].all fun slip => [0, 1].all fun place => itLook 98 slip place) = true := by decide +kernel
set_option maxHeartbeats 1000000 in
theorem itLook_99 : ([0, 1, 2, 3].all fun slip => [0, 1].all fun place => itLook 99 slip place) = true := by decide +kernel
theorem It.ok.look {i : It} (h : i.ok) : mendS i.typed = T i.meant ∧ 47 ∉ i.typed ∧ i.typed ≠ [] ∧ i.typed ≠ [46] ∧ i.typed ≠ [46, 46] ∧ i.typed.length ≤ 3 ∧ (i.typed = i.meant ↔ i.cost = 0) := by
  have hl : itLook i.c i.slip i.place = true := by
    have hs : i.slip ∈ [0, 1, 2, 3] := by have := h.slip; simp; omega
    have hp : i.place ∈ [0, 1] := by have := h.place; simp; omega
    have hc := h.c
    simp only [List.mem_cons, List.not_mem_nil, or_false] at hc
    rcases hc with e | e | e <;> rw [e]
    · exact List.all_eq_true.mp (List.all_eq_true.mp itLook_97 _ hs) _ hp
    · exact List.all_eq_true.mp (List.all_eq_true.mp itLook_98 _ hs) _ hp
    · exact List.all_eq_true.mp (List.all_eq_true.mp itLook_99 _ hs) _ hp
  unfold itLook at hl
  simp only [Bool.and_eq_true, beq_iff_eq, bne_iff_ne, ne_eq, Bool.not_eq_true', decide_eq_true_eq] at hl
  obtain ⟨⟨⟨⟨⟨⟨h1, h2⟩, h3⟩, h4⟩, h5⟩, h6⟩, h7⟩ := hl
  refine ⟨h1, fun q => ?_, h3, h4, h5, h6, ?_⟩
  · rw [← List.contains_iff_mem] at q
    rw [show (typedF i.c i.slip i.place) = i.typed from rfl] at h2
    rw [h2] at q; cases q
  · rw [Bool.eq_iff_iff, beq_iff_eq, beq_iff_eq] at h7
    exact h7
def step2 (S : List It) (n : Nat) : List It := if n % 8 = 5 then S.take (S.length - 1) else if n % 8 = 6 then S else (if n % 8 = 7 then [] else S) ++ [itOf (n / 8)]
def word2 (n : Nat) : List Nat := if n % 8 = 5 then [46, 46] else if n % 8 = 6 then (if n / 8 % 2 = 0 then [] else [46]) else (itOf (n / 8)).typed
def mend2 (n : Nat) : List Nat := if n % 8 = 5 then [46, 46] else if n % 8 = 6 then (if n / 8 % 2 = 0 then [] else [46]) else (itOf (n / 8)).meant
def head2 (n : Nat) : List Nat := if n % 8 = 7 then [47] else []
theorem mend_word (n : Nat) : mendS (word2 n) = T (mend2 n) := by
  unfold word2 mend2
  split
  · exact if_pos (.inr (.inr rfl))
  · split
    · split
      · exact if_pos (.inl rfl)
      · exact if_pos (.inr (.inl rfl))
    · exact (itOf_ok _).look.1
def nums2 (cells : List Int) : List Nat := (cells.take 3).map (fun c => (c.fmod 1000000).toNat) ++ [72, 128, 5, 64]
theorem nums2_len (cells : List Int) : (nums2 cells).length ≤ 7 := by unfold nums2; simp; omega
def stackF (ns : List Nat) : List It := ns.foldl step2 []
structure S2 where
  stack : List It
  r : List Nat
  m : List Nat
  ws : List Nat
/-- a word and its mending -/
abbrev pv (n : Nat) : AV := .tup [.str (T (word2 n)), .str (T (mend2 n))]
structure LI (ns : List Nat) (i : Nat) (c : S2) : Prop where
  stack : c.stack = stackF (ns.take i)
  ws : c.ws = ns.take i
  r : comps c.r = c.stack.map It.typed
  m : comps c.m = c.stack.map It.meant
  rh : c.r.head? ≠ some 47
  mh : c.m.head? ≠ some 47
  rl : c.r.length ≤ 5 * i
  ml : c.m.length ≤ 5 * i
  ok : ∀ x ∈ c.stack, x.ok
  sl : c.stack.length ≤ i
  there : ∀ x ∈ c.stack, ∃ n ∈ c.ws, word2 n = x.typed ∧ mend2 n = x.meant
theorem LI.zero (ns : List Nat) : LI ns 0 ⟨[], [], [], []⟩ :=
  ⟨rfl, rfl, rfl, rfl, by decide, by decide, by decide, by decide, fun x hx => (by cases hx), by decide, fun x hx => (by cases hx)⟩
theorem nstep_word (acc : List (List Nat)) (t : List Nat) (h1 : t ≠ []) (h2 : t ≠ [46]) (h3 : t ≠ [46, 46]) : nstep acc t = acc ++ [t] := by
  unfold nstep
  rw [if_neg (by simp [h1, h2]), if_pos (by simp [h3])]
theorem nstep_pop (acc : List (List Nat)) (hg : ∀ t ∈ acc, t ≠ [46, 46]) : nstep acc [46, 46] = acc.take (acc.length - 1) := by
  rcases List.eq_nil_or_concat acc with e | ⟨q, x, e⟩
  · subst e; simp [nstep]
  · rw [List.concat_eq_append] at e
    subst e
    have := hg x (by simp)
    unfold nstep
    simp [this]
/-- one way goes on -/
theorem way_step {S : List It} {r : List Nat} {n : Nat} {f : It → List Nat} {wd : List Nat} (hr : comps r = S.map f) (hh : r.head? ≠ some 47) (ho : ∀ x ∈ S, x.ok)
    (hf : ∀ x : It, x.ok → 47 ∉ f x ∧ f x ≠ [] ∧ f x ≠ [46] ∧ f x ≠ [46, 46] ∧ (f x).length ≤ 3)
    (hw : wd = if n % 8 = 5 then [46, 46] else if n % 8 = 6 then (if n / 8 % 2 = 0 then [] else [46]) else f (itOf (n / 8))) :
    ∃ r', joinF (47 :: r) (head2 n ++ wd) = 47 :: r' ∧ r'.head? ≠ some 47 ∧ comps r' = (step2 S n).map f ∧ r'.length ≤ r.length + 4 := by
  have hi := hf _ (itOf_ok (n / 8))
  have hne : ∀ x : It, x.ok → (f x).head? ≠ some 47 := fun x hx q => by
    cases e : f x with
    | nil => exact (hf x hx).2.1 e
    | cons a t =>
      rw [e] at q
      have : a = 47 := by simpa using q
      exact (hf x hx).1 (by rw [e, this]; simp)
  by_cases h7 : n % 8 = 7
  · have e1 : wd = f (itOf (n / 8)) := by rw [hw, if_neg (by omega), if_neg (by omega)]
    have e2 : head2 n = [47] := by unfold head2; rw [if_pos h7]
    have e3 : step2 S n = [itOf (n / 8)] := by unfold step2; rw [if_neg (by omega), if_neg (by omega), if_pos h7]; rfl
    refine ⟨f (itOf (n / 8)), by rw [e1, e2]; unfold joinF; rw [if_pos (by simp)]; rfl, hne _ (itOf_ok _), ?_, by have := hi.2.2.2.2; omega⟩
    rw [e3]
    unfold comps
    rw [sp_free _ hi.1]
    rw [List.foldl_cons, List.foldl_nil, nstep_word _ _ hi.2.1 hi.2.2.1 hi.2.2.2.1]; rfl
  · have e2 : head2 n = [] := by unfold head2; rw [if_neg h7]
    rw [e2, List.nil_append]
    by_cases h5 : n % 8 = 5
    · have e1 : wd = [46, 46] := by rw [hw, if_pos h5]
      obtain ⟨r', a1, a2, a3, a4⟩ := joinF_comps r wd hh (by rw [e1]; decide)
      refine ⟨r', a1, a2, ?_, by rw [e1] at a4; simp at a4; omega⟩
      rw [a3, e1, sp_free _ (by decide), hr]
      rw [List.foldl_cons, List.foldl_nil, nstep_pop _ fun t ht => by obtain ⟨x, hx, rfl⟩ := List.mem_map.mp ht; exact (hf x (ho x hx)).2.2.2.1]
      unfold step2
      rw [if_pos h5, List.map_take, List.length_map]
    · by_cases h6 : n % 8 = 6
      · have e3 : step2 S n = S := by unfold step2; rw [if_neg h5, if_pos h6]
        have e1 : wd = [] ∨ wd = [46] := by rw [hw, if_neg h5, if_pos h6]; split; exact .inl rfl; exact .inr rfl
        obtain ⟨r', a1, a2, a3, a4⟩ := joinF_comps r wd hh (by rcases e1 with e | e <;> rw [e] <;> decide)
        refine ⟨r', a1, a2, ?_, by rcases e1 with e | e <;> (rw [e] at a4; simp at a4; omega)⟩
        rw [a3, e3, hr]
        rcases e1 with e | e
        · rw [e]; exact nstep_nil _
        · rw [e, sp_free _ (by decide), List.foldl_cons, List.foldl_nil]; simp [nstep]
      · have e1 : wd = f (itOf (n / 8)) := by rw [hw, if_neg h5, if_neg h6]
        have e3 : step2 S n = S ++ [itOf (n / 8)] := by unfold step2; rw [if_neg h5, if_neg h6, if_neg h7]
        obtain ⟨r', a1, a2, a3, a4⟩ := joinF_comps r wd hh (by rw [e1]; exact hne _ (itOf_ok _))
        refine ⟨r', a1, a2, ?_, by rw [e1] at a4; have := hi.2.2.2.2; omega⟩
        rw [a3, e1, e3, sp_free _ hi.1, hr]
        rw [List.foldl_cons, List.foldl_nil, nstep_word _ _ hi.2.1 hi.2.2.1 hi.2.2.2.1, List.map_append]; rfl
theorem meant_facts (x : It) (h : x.ok) : 47 ∉ x.meant ∧ x.meant ≠ [] ∧ x.meant ≠ [46] ∧ x.meant ≠ [46, 46] ∧ x.meant.length ≤ 3 := by
  have hc := h.c
  simp only [List.mem_cons, List.not_mem_nil, or_false] at hc
  unfold It.meant
  rcases hc with e | e | e <;> rw [e] <;> decide
theorem typed_facts (x : It) (h : x.ok) : 47 ∉ x.typed ∧ x.typed ≠ [] ∧ x.typed ≠ [46] ∧ x.typed ≠ [46, 46] ∧ x.typed.length ≤ 3 :=
  ⟨h.look.2.1, h.look.2.2.1, h.look.2.2.2.1, h.look.2.2.2.2.1, h.look.2.2.2.2.2.1⟩
theorem step2_mem {S : List It} {n : Nat} {x : It} (h : x ∈ step2 S n) : x ∈ S ∨ (x = itOf (n / 8) ∧ n % 8 ≠ 5 ∧ n % 8 ≠ 6) := by
  unfold step2 at h
  split at h
  · exact .inl (List.mem_of_mem_take h)
  · split at h
    · exact .inl h
    · rename_i h5 h6
      rcases List.mem_append.mp h with h | h
      · split at h
        · cases h
        · exact .inl h
      · exact .inr ⟨List.mem_singleton.mp h, h5, h6⟩
theorem step2_len (S : List It) (n : Nat) : (step2 S n).length ≤ S.length + 1 := by
  unfold step2
  split
  · simp; omega
  · split
    · omega
    · split <;> simp
theorem LI.step {ns : List Nat} {i n : Nat} {c : S2} (h : LI ns i c) (hi : ns[i]? = some n) :
    ∃ r' m', joinF (47 :: c.r) (head2 n ++ word2 n) = 47 :: r' ∧ joinF (47 :: c.m) (head2 n ++ mend2 n) = 47 :: m' ∧ LI ns (i + 1) ⟨step2 c.stack n, r', m', c.ws ++ [n]⟩ := by
  obtain ⟨r', a1, a2, a3, a4⟩ := way_step (n := n) h.r h.rh h.ok typed_facts (wd := word2 n) rfl
  obtain ⟨m', b1, b2, b3, b4⟩ := way_step (n := n) h.m h.mh h.ok meant_facts (wd := mend2 n) rfl
  have htk : ns.take (i + 1) = ns.take i ++ [n] := by rw [List.take_add_one, hi]; rfl
  have hrl := h.rl
  have hml := h.ml
  have hsl := h.sl
  refine ⟨r', m', a1, b1, ⟨?_, by rw [htk, ← h.ws], a3, b3, a2, b2, by show r'.length ≤ _; omega, by show m'.length ≤ _; omega, ?_, ?_, ?_⟩⟩
  · show step2 c.stack n = stackF _
    rw [htk]; unfold stackF; rw [List.foldl_append, h.stack]; rfl
  · intro x hx
    rcases step2_mem hx with hx | ⟨rfl, _⟩
    · exact h.ok x hx
    · exact itOf_ok _
  · have := step2_len c.stack n
    show (step2 c.stack n).length ≤ _; omega
  · intro x hx
    rcases step2_mem hx with hx | ⟨rfl, h5, h6⟩
    · obtain ⟨k, hk, e⟩ := h.there x hx
      exact ⟨k, List.mem_append_left _ hk, e⟩
    · refine ⟨n, List.mem_append_right _ (by simp), ?_, ?_⟩
      · unfold word2; rw [if_neg h5, if_neg h6]
      · unfold mend2; rw [if_neg h5, if_neg h6]
/-! ## what the end asks -/
structure FinOk (S : List It) : Prop where
  off : false ∈ S.map fun x => decide (x.cost = 0)
  len : S.length ≤ 7
  lev : lev (47 :: jn (S.map It.meant)) (47 :: jn (S.map It.typed)) 99 = (S.map It.cost).sum
  common : commonF (47 :: jn (S.map It.meant)) (47 :: jn (S.map It.typed)) = 47 :: jn ((S.map It.meant).take ((S.map fun x => decide (x.cost = 0)).idxOf false))
end Mine

end T_Q2

section T_Q3
open PySem PySem.W PyProof.Rows PySem.Calls PySem.Spec
set_option linter.unusedVariables false
set_option linter.unusedSimpArgs false
set_option maxRecDepth 100000
namespace Mine
local macro_rules | `(tactic| walk_at "d.mem") => `(tactic| first | (with_reducible exact List.mem_cons_self) | ((with_reducible refine' List.mem_cons_of_mem _ ?_); walk_at "d.mem"))
local macro_rules | `(tactic| walk_at "d.upd") => `(tactic| first | (with_reducible exact Upd.head) | ((with_reducible refine' Upd.tail ?hu); (case hu => walk_at "d.upd")))
local macro_rules | `(tactic| walk_at "d.meth") => `(tactic| (unfold MethTree; exact rfl))
local macro_rules | `(tactic| walk_at "d.kind") => `(tactic| (refine' Kinds.get (by assumption) ?_; kernel_rfl))
local macro_rules | `(tactic| walk_at "d.num") => `(tactic| first | assumption | decide | omega | (simp only [sizeLine_eq] at *; omega))
local macro_rules | `(tactic| walk_at "d.op") => `(tactic| first
  | (with_reducible exact op_add_int) | (with_reducible exact op_sub_int) | (with_reducible exact op_eq_str) | (with_reducible exact op_ne_str) | (with_reducible exact op_eq_int) | (with_reducible exact op_ne_int)
  | (with_reducible exact op_lt_int) | (with_reducible exact op_le_int) | (with_reducible exact op_gt_int) | (with_reducible exact op_iadd_int) | (with_reducible exact op_isub_int)
  | ((with_reducible refine' op_add_str ?_); walk_at "d.num") | ((with_reducible refine' op_mul_int ?_); mul_fits))
local macro_rules | `(tactic| walk_at "d.tru") => `(tactic| first | (with_reducible exact tru_bool) | (with_reducible exact tru_none) | (with_reducible exact tru_int) | ((with_reducible refine' tru_str ?_); walk_at "d.num"))
local macro_rules | `(tactic| walk_at "d.ev") => `(tactic| first
  | (with_reducible exact Ev.cint) | (with_reducible exact Ev.cstr) | (with_reducible exact Ev.cbool) | (with_reducible exact Ev.cnone)
  | ((with_reducible refine' Ev.name ?hm ?hd); (case hd => decide); (case hm => walk_at "d.mem"))
  | ((with_reducible refine' Ev.op ?ha ?hb ?ho); (case ha => walk_at "d.ev"); (case hb => walk_at "d.ev"); (case ho => walk_at "d.op"))
  | ((with_reducible refine' Ev.cmp ?ha ?hb ?ho ?hm); (case ha => walk_at "d.ev"); (case hb => walk_at "d.ev"); (case ho => walk_at "d.op"); (case hm => with_unfolding_all rfl))
  | ((with_reducible refine' Ev.lower ?ha ?hn ?hm); (case ha => walk_at "d.ev"); (case hn => walk_at "d.num"); (case hm => walk_at "d.meth"))
  | ((with_reducible refine' Ev.upper ?ha ?hn ?hm); (case ha => walk_at "d.ev"); (case hn => walk_at "d.num"); (case hm => walk_at "d.meth"))
  | ((with_reducible refine' Ev.isupper ?ha ?hm); (case ha => walk_at "d.ev"); (case hm => walk_at "d.meth"))
  | ((with_reducible refine' Ev.strSlice ?ha ?hl ?hu ?hn); (case ha => walk_at "d.ev"); (case hl => walk_at "d.part"); (case hu => walk_at "d.part"); (case hn => walk_at "d.num"))
  | ((with_reducible refine' Ev.itemL (EvL.name ?hm ?hd) ?hb ?h0 ?ha ?hn ?hs); (case hm => walk_at "d.mem"); (case hd => decide); (case hb => walk_at "d.ev"); (case h0 => walk_at "d.num"); (case ha => assumption); (case hn => walk_at "d.num"); (case hs => (intro _ _; with_unfolding_all rfl)))
  | ((with_reducible refine' Ev.strItem ?ha ?hb ?hn ?h1 ?h2 ?hs); (case ha => walk_at "d.ev"); (case hb => walk_at "d.ev"); (case hn => walk_at "d.num"); (case h1 => walk_at "d.num"); (case h2 => walk_at "d.num"); (case hs => (intro _ _; with_unfolding_all rfl)))
  | ((with_reducible refine' Ev.lenStr ?hn ?hk ?ha ?hb ?hs); (case hn => kernel_rfl); (case hk => walk_at "d.kind"); (case ha => walk_at "d.ev"); (case hb => walk_at "d.num"); (case hs => exact rfl))
  | ((with_reducible refine' Ev.min2 ?hn ?hk ?ha ?hb ?hs ?ht ?hu); (case hn => kernel_rfl); (case hk => walk_at "d.kind"); (case ha => walk_at "d.ev"); (case hb => walk_at "d.ev"); (case hs => exact rfl); (case ht => exact rfl); (case hu => exact rfl))
  | ((with_reducible refine' Ev.typeStr ?hn ?hk ?ha ?hs); (case hn => kernel_rfl); (case hk => walk_at "d.kind"); (case ha => walk_at "d.ev"); (case hs => exact rfl))
  | ((with_reducible refine' Ev.isSub ?hn ?hk ?ha ?hb ?hs ?ht ?hu); (case hn => kernel_rfl); (case hk => walk_at "d.kind"); (case ha => walk_at "d.ev"); (case hb => walk_at "d.ev"); (case hs => exact rfl); (case ht => exact rfl); (case hu => exact rfl))
  | ((with_reducible refine' Ev.notBytes ?hn ?hk ?ha ?hb ?hs ?ht ?hu); (case hn => kernel_rfl); (case hk => walk_at "d.kind"); (case ha => walk_at "d.ev"); (case hb => walk_at "d.ev"); (case hs => exact rfl); (case ht => exact rfl); (case hu => exact rfl))
  | ((with_reducible refine' Ev.startswith ?ha ?hb ?hm ?hs); (case ha => walk_at "d.ev"); (case hb => walk_at "d.ev"); (case hm => walk_at "d.meth"); (case hs => exact rfl))
  | ((with_reducible refine' Ev.endswith ?ha ?hb ?hm ?hs); (case ha => walk_at "d.ev"); (case hb => walk_at "d.ev"); (case hm => walk_at "d.meth"); (case hs => exact rfl))
  | ((with_reducible refine' Ev.rfind ?ha ?hb ?hm ?hs); (case ha => walk_at "d.ev"); (case hb => walk_at "d.ev"); (case hm => walk_at "d.meth"); (case hs => exact rfl))
  | ((with_reducible refine' Ev.neg ?ha); (case ha => walk_at "d.ev"))
  | ((with_reducible refine' Ev.tuple ?ha ?hn); (case ha => walk_at "d.evs"); (case hn => exact (by simp [sizeLine_eq])))
  | ((with_reducible refine' Ev.globalInt ?hn ?hk ?hd); (case hn => exact rfl); (case hk => walk_at "d.kind"); (case hd => decide))
  | ((with_reducible refine' Ev.builtin ?hn ?hv ?hk ?hm ?hd); (case hn => kernel_rfl); (case hv => walk_at "d.boot"); (case hk => walk_at "d.kind"); (case hm => decide); (case hd => decide)))
local macro_rules | `(tactic| walk_at "d.boot") => `(tactic| first | (with_reducible exact boot_str_) | (with_reducible exact boot_bytes_))
local macro_rules | `(tactic| walk_at "d.part") => `(tactic| first | (with_reducible exact EvP.nothing) | ((with_reducible refine' EvP.num ?ha); (case ha => walk_at "d.ev")) | ((with_reducible refine' EvP.nil ?ha); (case ha => walk_at "d.ev")))
local macro_rules | `(tactic| walk_at "d.evs") => `(tactic| first | (with_reducible exact EvS.nil) | ((with_reducible refine' EvS.cons ?ha ?hb ?hs); (case ha => walk_at "d.ev"); (case hb => walk_at "d.evs"); (case hs => exact rfl)))
local macro_rules | `(tactic| walk_at "d.te") => `(tactic| first
  | ((with_reducible refine' Te.cmp ?ha ?hb ?ho ?hm); (case ha => walk_at "d.ev"); (case hb => walk_at "d.ev"); (case ho => walk_at "d.op"); (case hm => with_unfolding_all rfl))
  | ((with_reducible refine' Te.not ?ha); walk_at "d.te")
  | ((with_reducible refine' Te.plain ?ha ?hb ?hc); (case ha => walk_at "d.ev"); (case hb => walk_at "d.tru"); (case hc => exact rfl)))
local macro_rules | `(tactic| walk_at "d.ret") => `(tactic| (refine' Ex.ret ?e ?_; (case e => walk_at "d.ev"); exact fun h v S q => ⟨S.keep, q.flat (by constructor)⟩))
local macro_rules | `(tactic| walk_at "d.asg") => `(tactic| (refine' Ex.assign ?e ?u ?_ ?hs; (case e => walk_at "d.ev"); (case u => walk_at "d.upd"); (case hs => exact rfl)))
local macro_rules | `(tactic| walk_at "d.aug") => `(tactic| (refine' Ex.augm ?m ?e ?o ?u ?_; (case m => walk_at "d.mem"); (case e => walk_at "d.ev"); (case o => walk_at "d.op"); (case u => walk_at "d.upd")))
local macro_rules | `(tactic| walk_at "d.fgt") => `(tactic| first | (with_reducible exact Fgt.nil) | ((with_reducible refine' Fgt.same ?hu); (case hu => walk_at "d.fgt")) | ((with_reducible refine' Fgt.free ?hu); (case hu => walk_at "d.fgt")))
local macro_rules | `(tactic| walk_at "d.range1") => `(tactic| ((with_reducible refine' EvR.of1 ?hn ?hk ?ha ?hs); (case hn => kernel_rfl); (case hk => walk_at "d.kind"); (case ha => walk_at "d.ev"); (case hs => exact rfl)))
local macro_rules | `(tactic| walk_at "d.op") => `(tactic| ((with_reducible refine' op_iadd_str ?_); walk_at "d.num"))
local macro_rules | `(tactic| walk_at "d.ev") => `(tactic| first
  | (with_reducible exact Ev.slash) | (with_reducible exact Ev.empty) | (with_reducible exact Ev.dot) | (with_reducible exact Ev.dotdot)
  | ((with_reducible refine' Ev.fspath ?hn ?hx ?he ?hs); (case hn => decide); (case hx => walk_at "d.kind"); (case he => walk_at "d.ev"); (case hs => exact rfl))
  | ((with_reducible refine' Ev.sep ?hn ?hx ?he ?hs); (case hn => decide); (case hx => walk_at "d.kind"); (case he => walk_at "d.ev"); (case hs => exact rfl))
  | ((with_reducible refine' Ev.rstrip1 ?ha ?hb ?hn ?hm ?hs); (case ha => walk_at "d.ev"); (case hb => walk_at "d.ev"); (case hn => walk_at "d.num"); (case hm => walk_at "d.meth"); (case hs => exact rfl))
  | ((with_reducible refine' Ev.splitS ?ha ?hb ?hn ?hm ?hs); (case ha => walk_at "d.ev"); (case hb => walk_at "d.ev"); (case hn => walk_at "d.num"); (case hm => walk_at "d.meth"); (case hs => exact rfl)))
abbrev qv (script stack parts way mended number deed head typed which meant slip wanted straight above names step last sound : Slot) : Vars :=
  [("script", script), ("stack", stack), ("parts", parts), ("way", way), ("mended", mended), ("number", number), ("deed", deed), ("head", head), ("typed", typed), ("which", which), ("meant", meant), ("slip", slip), ("wanted", wanted), ("straight", straight), ("above", above), ("names", names), ("step", step), ("last", last), ("sound", sound)]
def It.av (i : It) : AV := .tup [.str (T i.meant), .str (T i.typed), .int i.cost]
abbrev stAV (S : List It) : AV := .list (S.map It.av)
def word0 (n : Nat) : List Nat := if n % 8 = 5 then [46, 46] else if n / 8 % 2 = 0 then [] else [46]
def modAV : AV → AV
  | .int i => .int (i.fmod 1000000)
  | _ => .none
theorem nums2_av (cells : List Int) : ((((cells.map AV.int).take 3).filter fun _ => true).map modAV) ++ [.int 72, .int 128, .int 5, .int 64] = (nums2 cells).map fun n : Nat => AV.int (n : Int) := by
  unfold nums2
  rw [List.map_append, List.map_map, ← List.map_take]
  congr 1
  rw [List.filter_eq_self.mpr (fun _ _ => rfl), List.map_map]
  refine List.map_congr_left fun c _ => ?_
  show AV.int (c.fmod 1000000) = AV.int (((c.fmod 1000000).toNat : Nat) : Int)
  have := Int.fmod_nonneg_of_pos c (show (0 : Int) < 1000000 by decide)
  rw [Int.toNat_of_nonneg this]
def namesOf (K : Frag) (f : Addr) : List (Str × NameKind) := match K.lookup f with
  | some ⟨_, _, .func fd, _⟩ => fd.scope.names
  | _ => []
def pick (k : Nat) : AV → AV
  | .tup xs => xs.getD k .none
  | _ => .none
def isT (t : List Nat) (a : AV) : Bool := match pick 0 a with
  | .str s => s == T t
  | _ => false
def pickZ (a : AV) : AV := match pick 2 a with
  | .int k => .bool (k == 0)
  | _ => .none
theorem pick_meant (S : List It) : AV.list (((S.map It.av).filter fun _ => true).map (pick 0)) = .list ((S.map It.meant).map fun x => .str (T x)) := by
  rw [List.filter_eq_self.mpr (fun _ _ => rfl), List.map_map, List.map_map]; rfl
theorem pick_typed (S : List It) : AV.list (((S.map It.av).filter fun _ => true).map (pick 1)) = .list ((S.map It.typed).map fun x => .str (T x)) := by
  rw [List.filter_eq_self.mpr (fun _ _ => rfl), List.map_map, List.map_map]; rfl
theorem pick_cost (S : List It) : ((S.map It.av).filter fun _ => true).map (pick 2) = (S.map It.cost).map .int := by
  rw [List.filter_eq_self.mpr (fun _ _ => rfl), List.map_map, List.map_map]; rfl
theorem pick_zero (S : List It) : ((S.map It.av).filter fun _ => true).map pickZ = (S.map fun x => decide (x.cost = 0)).map .bool := by
  rw [List.filter_eq_self.mpr (fun _ _ => rfl), List.map_map, List.map_map]; rfl
theorem first_part (t mt : List Nat) : ∀ (ws : List Nat), (∃ n ∈ ws, word2 n = t ∧ mend2 n = mt) → (((ws.map pv).filter (isT t)).map (pick 1)).take 1 = [.str (T mt)]
  | [], h => by obtain ⟨_, h, _⟩ := h; cases h
  | n :: ws, h => by
    by_cases hw : word2 n = t
    · have hm : mend2 n = mt := by
        obtain ⟨k, _, h1, h2⟩ := h
        have a := mend_word n
        have b := mend_word k
        rw [hw] at a; rw [h1] at b
        rw [← h2]
        exact T_inj.mp (a.symm.trans b)
      have : isT t (pv n) = true := by show (T (word2 n) == T t) = true; rw [hw]; exact beq_self_eq_true _
      rw [List.map_cons, List.filter_cons, if_pos this, List.map_cons, List.take_succ_cons, List.take_zero]
      show [AV.str (T (mend2 n))] = _
      rw [hm]
    · have : ¬ isT t (pv n) = true := by
        show ¬ (T (word2 n) == T t) = true
        rw [beq_iff_eq, T_inj]; exact hw
      rw [List.map_cons, List.filter_cons, if_neg this]
      refine first_part t mt ws ?_
      obtain ⟨k, hk, h1, h2⟩ := h
      rcases List.mem_cons.mp hk with e | hk
      · subst e; exact absurd h1 hw
      · exact ⟨k, hk, h1, h2⟩
theorem jn_snoc : ∀ (L : List (List Nat)) (t : List Nat), 47 :: jn (L ++ [t]) = (if L = [] then [] else 47 :: jn L) ++ 47 :: t
  | [], t => rfl
  | [p], t => by simp [jn]
  | p :: q :: L, t => by
    have := jn_snoc (q :: L) t
    rw [if_neg (by simp)] at this ⊢
    have e : jn (q :: L ++ [t]) = jn (q :: L) ++ 47 :: t := by simpa using this
    show 47 :: (p ++ 47 :: jn (q :: L ++ [t])) = 47 :: (p ++ 47 :: jn (q :: L)) ++ 47 :: t
    rw [e]; simp
theorem jn_end (L : List (List Nat)) (hL : ∀ t ∈ L, 47 ∉ t ∧ t ≠ []) : (if L = [] then [] else 47 :: jn L) = [] ∨ ∃ h' c, (if L = [] then [] else 47 :: jn L) = h' ++ [c] ∧ c ≠ 47 := by
  rcases List.eq_nil_or_concat L with e | ⟨q, t, e⟩
  · exact .inl (if_pos e)
  · rw [List.concat_eq_append] at e
    subst e
    have ht := hL t (by simp)
    rcases List.eq_nil_or_concat t with e | ⟨t', c, e⟩
    · exact absurd e ht.2
    · rw [List.concat_eq_append] at e
      subst e
      refine .inr ⟨(if q = [] then [] else 47 :: jn q) ++ 47 :: t', c, ?_, fun e => ht.1 (by simp [e])⟩
      rw [if_neg (by simp), jn_snoc]; simp
theorem wt_small (L : List (List Nat)) (h : ∀ t ∈ L, t.length ≤ 3) : wt L ≤ 4 * L.length := by
  unfold wt
  induction L with
  | nil => simp
  | cons a L ih =>
    have h1 := h a (by simp)
    have h2 := ih fun t ht => h t (by simp [ht])
    simp only [List.map_cons, List.sum_cons, List.length_cons]; omega
section
variable {w : World} {n : Nat} {env : Env} {ex : Addr → Prop} {vs : Vars}
theorem Ev.spelled {p pos : Pos} {e : Expr} {names : List (List Nat)} (hn : 1 ≤ n) (hx : env.kindOf "_law_spelled" = some .globalImplicit) (he : Ev PG w (KK w) n env ex vs e (.list (names.map fun x => .str (T x)))) (hl : wt names ≤ 1000) (h1 : starEach [e] env = (false, eval e env) :: starEach [] env) :
    Ev PG w (KK w) n env ex vs (.Call (.Name "_law_spelled" p) [e] [] pos) (.str (T (47 :: jn names))) :=
  Ev.call (by kernel_rfl) hx rfl rfl (EvS.cons he EvS.nil h1) ((spelled_ok w names hl).up hn) ⟨_, _, h1⟩ (by decide)
end
set_option maxHeartbeats 2000000 in
theorem law_tail (w : World) (env : Env) (h₀ : Heap) (hk : Kinds env (namesOf (KK w) 179)) (clast : ∃ c, env.cells.lookup ("last" : Str) = some c) (l : Addr) (sc : AV) {ns : List Nat} {i : Nat} (c : S2) (hI : LI ns i c) (hi7 : i ≤ 7) (hF : FinOk c.stack) :
    Ex PG w 8 env (Add No l) (StS (KK w) env h₀ (Add No l) (qv (.val sc) (.val (stAV c.stack)) (.own l true (c.ws.map pv)) (.val (.str (T (47 :: c.r)))) (.val (.str (T (47 :: c.m)))) .free .free .free .free .free .free .free .free .free .free .free .free .free .free)) ((bodyOf (KK w) 179).drop 2)
      (fun fl h => Ext h₀ h ∧ Val h (Old h₀) (match fl with | .ret v => v | _ => .none) (.bool true)) := by
  have hsz := sizeLine_eq
  have h7 := hF.len
  have hrl := hI.rl
  have hml := hI.ml
  have hwl : c.ws.length ≤ 7 := by rw [hI.ws, List.length_take]; omega
  have hok := hI.ok
  have hwM : wt (c.stack.map It.meant) ≤ 28 := by have := wt_small (c.stack.map It.meant) (fun t ht => by obtain ⟨x, hx, rfl⟩ := List.mem_map.mp ht; exact (meant_facts x (hok x hx)).2.2.2.2); rw [List.length_map] at this; omega
  have hwY : wt (c.stack.map It.typed) ≤ 28 := by have := wt_small (c.stack.map It.typed) (fun t ht => by obtain ⟨x, hx, rfl⟩ := List.mem_map.mp ht; exact (typed_facts x (hok x hx)).2.2.2.2); rw [List.length_map] at this; omega
  have hLM := jn_len (c.stack.map It.meant)
  have hLY := jn_len (c.stack.map It.typed)
  have hsr : normF c.r = 47 :: jn (c.stack.map It.typed) := by rw [normF_comps, hI.r]
  have hsm : normF c.m = 47 :: jn (c.stack.map It.meant) := by rw [normF_comps, hI.m]
  have hFl := hF.lev
  have hFc := hF.common
  have hFo := hF.off
  have hth := hI.there
  have hrh := hI.rh
  have hmh := hI.mh
  generalize hcr : c.r = r at *
  generalize hcm : c.m = m at *
  generalize hcw : c.ws = ws at *
  generalize hcs : c.stack = S at *
  clear hI hF
  have elt : ∀ (k : Nat) (kk : Int) (jx : Nat), kk = (k : Int) → k < 3 → ∀ x : It, ∀ (vs : Vars) (env : Env) (ex : Addr → Prop) (p1 p2 p3 : Pos), (("folder" : Str), Slot.val (It.av x)) ∈ vs → Ev PG w (KK w) 8 env ex vs (.Subscript (.Name "folder" p1) (.Constant (.int kk) 0 p2) p3) (pick k x.av) := by
    intro k kk jx hkk hk3 x vs env ex p1 p2 p3 hm
    subst hkk
    refine Ev.itemT (xs := [.str (T x.meant), .str (T x.typed), .int x.cost]) (i := (k : Int)) (j := k) (Ev.name hm (by decide)) Ev.cint ?_ ?_ (by omega) (by intro _ _; with_unfolding_all rfl)
    · have : k = 0 ∨ k = 1 ∨ k = 2 := by omega
      rcases this with e | e | e <;> rw [e] <;> rfl
    · have : k = 0 ∨ k = 1 ∨ k = 2 := by omega
      rcases this with e | e | e <;> rw [e] <;> rfl
  refine' Ex.assign (Ev.spelled (names := S.map It.meant) (by decide) ?k (Ev.to (Ev.ofN (EvN.comp (xs := S.map It.av) (capt := []) (fun _ => true) (pick 0) ?fc ?cell rfl ?nm rfl (EvI.list ?st) (by simp; omega) ?capt ?ifs ?elt (by intro _; rfl))) (pick_meant S)) (by omega) rfl) ?u ?_ rfl
  case k => walk_at "d.kind"
  case fc => intro z hz; simp at hz
  case cell => decide
  case nm => decide
  case st => walk_at "d.ev"
  case capt => intro p hp; cases hp
  case ifs => exact fun cl C D i a ha hk' => Ifs.nil
  case elt =>
    intro cl C D i a ha _ hk' hcl
    obtain ⟨x, hx, rfl⟩ := List.mem_map.mp (List.mem_of_getElem? ha)
    exact elt 0 0 0 rfl (by decide) x _ _ _ _ _ _ List.mem_cons_self
  case u => walk_at "d.upd"
  refine' Ex.assign (Ev.to (Ev.norm (r := r) (by decide) ?k ?e hrh (by omega) rfl) (congrArg (fun l => AV.str (T l)) hsr)) ?u ?_ rfl
  case k => walk_at "d.kind"
  case e => walk_at "d.ev"
  case u => walk_at "d.upd"
  refine' Ex.ite_ff (Te.or_ff (Te.to (Te.cmp ?a1 (Ev.spelled (names := S.map It.typed) (by decide) ?k1 (Ev.to (Ev.ofN (EvN.comp (xs := S.map It.av) (capt := []) (fun _ => true) (pick 1) ?fc ?cell rfl ?nm rfl (EvI.list ?st) (by simp; omega) ?capt ?ifs ?elt (by intro _; rfl))) (pick_typed S)) (by omega) rfl) op_ne_str ?mk1) ?t1) (Te.or_ff (Te.to (Te.cmp (Ev.to (Ev.norm (r := m) (by decide) ?k2 ?a2 hmh (by omega) rfl) (congrArg (fun l => AV.str (T l)) hsm)) ?a3 op_ne_str ?mk2) ?t2) Te.or_nil)) ?_
  case a1 => walk_at "d.ev"
  case k1 => walk_at "d.kind"
  case fc => intro z hz; simp at hz
  case cell => decide
  case nm => decide
  case st => walk_at "d.ev"
  case capt => intro p hp; cases hp
  case ifs => exact fun cl C D i a ha hk' => Ifs.nil
  case elt =>
    intro cl C D i a ha _ hk' hcl
    obtain ⟨x, hx, rfl⟩ := List.mem_map.mp (List.mem_of_getElem? ha)
    exact elt 1 1 0 rfl (by decide) x _ _ _ _ _ _ List.mem_cons_self
  case mk1 => with_unfolding_all rfl
  case t1 => simp
  case k2 => walk_at "d.kind"
  case a2 => walk_at "d.ev"
  case a3 => walk_at "d.ev"
  case mk2 => with_unfolding_all rfl
  case t2 => simp
  refine' Ex.swap (ps := [("above", .str (T (47 :: jn (S.map It.typed)))), ("names", .list [])]) (Ev.tuple (EvS.cons ?w1 (EvS.cons (Ev.ofN (Ev.list EvS.nil (by simp))) EvS.nil rfl) rfl) (by simp [sizeLine_eq])) (Upds.cons (x := "names") (a := .list []) ?u1 (Upds.cons (x := "above") (a := .str (T (47 :: jn (S.map It.typed)))) ?u2 Upds.nil)) ?_ ?sw rfl
  case w1 => walk_at "d.ev"
  case u1 => walk_at "d.upd"
  case u2 => walk_at "d.upd"
  case sw => exact swapped_two hk.2 (hk.get (by kernel_rfl)) (hk.get (by kernel_rfl)) rfl (by decide) rfl rfl rfl rfl
  refine' Ex.forI (σ := List (List Nat) × List (List Nat)) (xs := S.map It.av) (fun d => qv (.val sc) (.val (stAV S)) (.own l true (ws.map pv)) (.val (.str (T (47 :: r)))) (.val (.str (T (47 :: m)))) .free .free .free .free .free .free .free (.val (.str (T (47 :: jn (S.map It.meant))))) (.val (.str (T (47 :: jn (S.map It.typed))))) (.val (.str (T (47 :: jn d.1)))) (.val (.list (d.2.map fun x => .str (T x)))) .free .free .free)
    (fun i d => d = ((S.map It.typed).take (S.length - i), (S.map It.meant).drop (S.length - i))) (fun _ => False) (S.map It.typed, []) (EvI.list ?st) rfl ?p0 ?turn ?done ?brk (by intro _; rfl)
  case st => walk_at "d.ev"
  case p0 => exact Prod.ext (by rw [Nat.sub_zero]; exact (List.take_of_length_le (by rw [List.length_map]; exact Nat.le_refl _)).symm) (by rw [Nat.sub_zero]; exact (List.drop_eq_nil_of_le (by rw [List.length_map]; exact Nat.le_refl _)).symm)
  case brk => exact fun A R s E hS => hS.elim
  case turn =>
    intro i a d hi hd
    cases hd
    have hiS : i < S.length := by
      have := (List.getElem?_eq_some_iff.mp hi).1
      simpa using this
    clear hi
    refine' ⟨_, ?u, ?tb⟩
    case u => walk_at "d.upd"
    have hk1 : S.length - i = (S.length - (i + 1)) + 1 := by omega
    have hlt : S.length - (i + 1) < S.length := by omega
    generalize hz : S.length - (i + 1) = z at hk1 hlt
    have hlY : z < (S.map It.typed).length := by simpa using hlt
    have hlM : z < (S.map It.meant).length := by simpa using hlt
    have htk : (S.map It.typed).take (S.length - i) = (S.map It.typed).take z ++ [S[z].typed] := by rw [hk1, List.take_add_one, List.getElem?_eq_getElem hlY]; simp
    have hdr : (S.map It.meant).drop z = S[z].meant :: (S.map It.meant).drop (S.length - i) := by rw [hk1, List.drop_eq_getElem_cons hlM]; simp
    have hxo := hok _ (List.getElem_mem hlt)
    have hxf := typed_facts _ hxo
    have hLg : ∀ t ∈ (S.map It.typed).take z, 47 ∉ t ∧ t ≠ [] := fun t ht => by
      obtain ⟨x, hx, rfl⟩ := List.mem_map.mp (List.mem_of_mem_take ht)
      exact ⟨(typed_facts x (hok x hx)).1, (typed_facts x (hok x hx)).2.1⟩
    have hfp := first_part S[z].typed S[z].meant ws (hth _ (List.getElem_mem hlt))
    have hsn := jn_snoc ((S.map It.typed).take z) S[z].typed
    have hje := jn_end _ hLg
    have hwz : wt ((S.map It.typed).take z ++ [S[z].typed]) ≤ 28 := by
      have := wt_small ((S.map It.typed).take z ++ [S[z].typed]) (fun t ht => by
        rcases List.mem_append.mp ht with ht | ht
        · obtain ⟨x, hx, rfl⟩ := List.mem_map.mp (List.mem_of_mem_take ht)
          exact (typed_facts x (hok x hx)).2.2.2.2
        · rw [List.mem_singleton.mp ht]; exact hxf.2.2.2.2)
      simp at this ⊢; omega
    have hjl := jn_len ((S.map It.typed).take z ++ [S[z].typed])
    rw [htk]
    have hth1 : (if (if (S.map It.typed).take z = [] then [] else 47 :: jn ((S.map It.typed).take z)) = [] then [47] else (if (S.map It.typed).take z = [] then [] else 47 :: jn ((S.map It.typed).take z))) = 47 :: jn ((S.map It.typed).take z) := by
      by_cases e : (S.map It.typed).take z = []
      · rw [if_pos (if_pos e), e]; rfl
      · rw [if_neg e, if_neg (by simp)]
    have hsp := split_ok w _ S[z].typed hxf.1 hje (by rw [← hsn]; simp only [List.length_cons]; omega)
    rw [hth1, ← hsn] at hsp
    have hdl : ((S.map It.meant).drop (S.length - i)).length ≤ 7 := by simp; omega
    generalize (S.map It.typed).take z = L at *
    generalize (S.map It.meant).drop (S.length - i) = N at *
    generalize S[z].typed = t at *
    generalize S[z].meant = mt at *
    refine' Ex.unpack (ps := [("above", .str (T (47 :: jn L))), ("last", .str (T t))]) (Ev.call ?g1 ?g2 rfl rfl ?g3 (hsp.up (by decide)) ⟨_, _, rfl⟩ (by decide)) (.cons (.cons .nil)) (.cons ?u1 (.cons ?u2 .nil)) ?_ rfl rfl
    case g1 => kernel_rfl
    case g2 => walk_at "d.kind"
    case g3 => walk_at "d.evs"
    case u1 => walk_at "d.upd"
    case u2 => walk_at "d.upd"
    have hwsl : ((ws.map pv).filter (isT t)).length ≤ 7 := Nat.le_trans (List.length_filter_le _ _) (by rw [List.length_map]; exact hwl)
    refine' Ex.assign (Ev.to (Ev.ofN (EvN.add (xs := (((ws.map pv).filter (isT t)).map (pick 1)).take 1) (ys := N.map fun x => .str (T x)) (EvL.of (Ev.ofN (EvN.cut (l := none) (u := some ((1 : Nat) : Int)) (EvL.of (Ev.ofN (EvN.comp (xs := ws.map pv) (strict := False) (capt := [("last", .val (.str (T t)))]) (isT t) (pick 1) ?fc ?cell rfl ?nm rfl (EvI.own (EvL.name (l := l) (pp := true) ?m1 (by decide))) (by simp; omega) ?capt ?ifs ?elt (by intro _; rfl)))) EvP.nothing (EvP.num ?one) (by rw [List.length_map]; omega) (pick_upto 1)))) (EvL.of ?nms) ?szn)) ?ye) ?u ?_ rfl
    case fc => intro z hz; simp at hz; subst hz; exact clast
    case cell => decide
    case nm => decide
    case m1 => walk_at "d.mem"
    case capt =>
      intro p hp
      rw [List.mem_singleton.mp hp]
      refine ⟨?_, rfl, hk.get (by kernel_rfl)⟩
      walk_at "d.mem"
    case ifs =>
      intro cl C D j a ha hk'
      obtain ⟨n, hn, rfl⟩ := List.mem_map.mp (List.mem_of_getElem? ha)
      refine' Ifs.one (Te.to (Te.cmp (Ev.itemT (xs := [.str (T (word2 n)), .str (T (mend2 n))]) (i := 0) (j := 0) (a := .str (T (word2 n))) ?a1 ?a2 rfl rfl (by decide) ?s1) ?a3 op_eq_str ?mk) ?eq)
      case a1 => walk_at "d.ev"
      case a2 => walk_at "d.ev"
      case s1 => intro _ _; with_unfolding_all rfl
      case a3 => walk_at "d.ev"
      case mk => with_unfolding_all rfl
      case eq => rfl
    case elt =>
      intro cl C D j a ha _ hk' hcl
      obtain ⟨n, hn, rfl⟩ := List.mem_map.mp (List.mem_of_getElem? ha)
      refine' Ev.itemT (xs := [.str (T (word2 n)), .str (T (mend2 n))]) (i := 1) (j := 1) ?a1 ?a2 rfl rfl (by decide) ?s1
      case a1 => walk_at "d.ev"
      case a2 => walk_at "d.ev"
      case s1 => intro _ _; with_unfolding_all rfl
    case one =>
      refine' Ev.to (a := .int 1) ?th rfl
      case th => walk_at "d.ev"
    case nms => walk_at "d.ev"
    case szn => rw [List.length_take, List.length_map, List.length_map]; omega
    case ye => exact (by rw [hfp]; rfl : AV.list ((((ws.map pv).filter (isT t)).map (pick 1)).take 1 ++ N.map fun x => AV.str (T x)) = .list ((mt :: N).map fun x => .str (T x)))
    case u => walk_at "d.upd"
    refine Ex.nil fun h q => ⟨(L, mt :: N), ?fin, q.forget ?fg⟩
    case fin => exact Prod.ext rfl hdr.symm
    case fg => walk_at "d.fgt"
  case done =>
    intro d hd
    cases hd
    rw [List.length_map, Nat.sub_self, List.take_zero, List.drop_zero]
    refine' Ex.ite_ff (Te.or_ff (Te.to (Te.cmp ?a1 ?a2 op_ne_str ?mk1) ?t1) (Te.or_ff (Te.to (Te.cmp (Ev.spelled (names := S.map It.meant) (by decide) ?k1 ?a3 (by omega) rfl) ?a4 op_ne_str ?mk2) ?t2) Te.or_nil)) ?_
    case a1 => walk_at "d.ev"
    case a2 => walk_at "d.ev"
    case mk1 => with_unfolding_all rfl
    case t1 => rw [show jn [] = [] from rfl]; simp
    case k1 => walk_at "d.kind"
    case a3 => walk_at "d.ev"
    case a4 => walk_at "d.ev"
    case mk2 => with_unfolding_all rfl
    case t2 => simp
    refine' Ex.assign (Ev.indexB (bs := S.map fun x => decide (x.cost = 0)) (b := false) (EvN.to (EvN.comp (xs := S.map It.av) (capt := []) (fun _ => true) pickZ ?fc ?cell rfl ?nm rfl (EvI.list ?st) (by simp; omega) ?capt ?ifs ?elt (by intro _; rfl)) (pick_zero S)) ?x3 hFo (by simp; omega) ?x4 rfl) ?u ?_ rfl
    case fc => intro z hz; simp at hz
    case cell => decide
    case nm => decide
    case st => walk_at "d.ev"
    case capt => intro p hp; cases hp
    case ifs => exact fun cl C D i a ha hk' => Ifs.nil
    case elt =>
      intro cl C D i a ha _ hk' hcl
      obtain ⟨x, hx, rfl⟩ := List.mem_map.mp (List.mem_of_getElem? ha)
      refine' Ev.to (Ev.cmp (elt 2 2 0 rfl (by decide) x _ _ _ _ _ _ List.mem_cons_self) ?a1 op_eq_int ?mk) ?eq
      case a1 => walk_at "d.ev"
      case mk => with_unfolding_all rfl
      case eq => rfl
    case x3 => walk_at "d.ev"
    case x4 => walk_at "d.meth"
    case u => walk_at "d.upd"
    generalize (S.map fun x => decide (x.cost = 0)).idxOf false = k at *
    have hwk : wt ((S.map It.meant).take k) ≤ 28 := by
      have := wt_small ((S.map It.meant).take k) (fun t ht => by obtain ⟨x, hx, rfl⟩ := List.mem_map.mp (List.mem_of_mem_take ht); exact (meant_facts x (hok x hx)).2.2.2.2)
      simp at this ⊢; omega
    have hmtk : AV.list (((S.map It.meant).map fun x => AV.str (T x)).take k) = .list (((S.map It.meant).take k).map fun x => .str (T x)) := by rw [List.map_take]
    refine' Ex.ite_ff (Te.to (Te.cmp (Ev.common (x := jn (S.map It.meant)) (y := jn (S.map It.typed)) (by decide) ?k1 (Ev.ofN (Ev.list ?lst (by simp [sizeLine_eq]))) (by omega) (by omega) rfl) (Ev.spelled (names := (S.map It.meant).take k) (by decide) ?k2 (Ev.to (Ev.ofN (EvN.slice (l := none) (u := some (k : Int)) (EvL.of ?n1) EvP.nothing (EvP.num ?n2) (by simp; omega) (pick_upto k) (by intro _ _; rfl))) hmtk) (by omega) rfl) op_ne_str ?mk) ?t) ?_
    case k1 => walk_at "d.kind"
    case lst => walk_at "d.evs"
    case k2 => walk_at "d.kind"
    case n1 => walk_at "d.ev"
    case n2 => walk_at "d.ev"
    case mk => with_unfolding_all rfl
    case t => rw [hFc]; simp
    refine' Ex.ret (Ev.to (Ev.cmp (Ev.levC (x := 47 :: jn (S.map It.meant)) (y := 47 :: jn (S.map It.typed)) (m := 99) (by decide) ?k1 ?a1 ?a2 ?a3 (by simp; omega) (by simp; omega) rfl rfl rfl) (Ev.sumI (xs := S.map It.cost) ?n2 ?k2 (EvL.to (EvL.of (Ev.ofN (EvN.comp (xs := S.map It.av) (capt := []) (fun _ => true) (pick 2) ?fc ?cell rfl ?nm rfl (EvI.list ?st) (by simp; omega) ?capt ?ifs ?elt (by intro _; rfl)))) (pick_cost S)) rfl) op_eq_int ?mk) ?eq) ?_
    case k1 => walk_at "d.kind"
    case a1 => walk_at "d.ev"
    case a2 => walk_at "d.ev"
    case a3 => walk_at "d.ev"
    case n2 => kernel_rfl
    case k2 => walk_at "d.kind"
    case fc => intro z hz; simp at hz
    case cell => decide
    case nm => decide
    case st => walk_at "d.ev"
    case capt => intro p hp; cases hp
    case ifs => exact fun cl C D i a ha hk' => Ifs.nil
    case elt =>
      intro cl C D i a ha _ hk' hcl
      obtain ⟨x, hx, rfl⟩ := List.mem_map.mp (List.mem_of_getElem? ha)
      exact elt 2 2 0 rfl (by decide) x _ _ _ _ _ _ List.mem_cons_self
    case mk => with_unfolding_all rfl
    case eq => exact (by rw [hFl]; simp : AV.bool (lev (47 :: jn (S.map It.meant)) (47 :: jn (S.map It.typed)) 99 == (S.map It.cost).sum) = .bool true)
    exact fun h v S q => ⟨S.keep, q.flat (by constructor)⟩
end Mine

end T_Q3

section T_QW
open PySem PySem.W PyProof.Rows PySem.Calls PySem.Spec
set_option linter.unusedVariables false
set_option linter.unusedSimpArgs false
set_option maxRecDepth 100000
namespace Mine
local macro_rules | `(tactic| walk_at "d.mem") => `(tactic| first | (with_reducible exact List.mem_cons_self) | ((with_reducible refine' List.mem_cons_of_mem _ ?_); walk_at "d.mem"))
local macro_rules | `(tactic| walk_at "d.upd") => `(tactic| first | (with_reducible exact Upd.head) | ((with_reducible refine' Upd.tail ?hu); (case hu => walk_at "d.upd")))
local macro_rules | `(tactic| walk_at "d.meth") => `(tactic| (unfold MethTree; exact rfl))
local macro_rules | `(tactic| walk_at "d.kind") => `(tactic| (refine' Kinds.get (by assumption) ?_; kernel_rfl))
local macro_rules | `(tactic| walk_at "d.num") => `(tactic| first | assumption | decide | omega | (simp only [sizeLine_eq] at *; omega))
local macro_rules | `(tactic| walk_at "d.op") => `(tactic| first
  | (with_reducible exact op_add_int) | (with_reducible exact op_sub_int) | (with_reducible exact op_eq_str) | (with_reducible exact op_ne_str) | (with_reducible exact op_eq_int) | (with_reducible exact op_ne_int)
  | (with_reducible exact op_lt_int) | (with_reducible exact op_le_int) | (with_reducible exact op_gt_int) | (with_reducible exact op_iadd_int) | (with_reducible exact op_isub_int)
  | ((with_reducible refine' op_add_str ?_); walk_at "d.num") | ((with_reducible refine' op_mul_int ?_); mul_fits))
local macro_rules | `(tactic| walk_at "d.tru") => `(tactic| first | (with_reducible exact tru_bool) | (with_reducible exact tru_none) | (with_reducible exact tru_int) | ((with_reducible refine' tru_str ?_); walk_at "d.num"))
local macro_rules | `(tactic| walk_at "d.ev") => `(tactic| first
  | (with_reducible exact Ev.cint) | (with_reducible exact Ev.cstr) | (with_reducible exact Ev.cbool) | (with_reducible exact Ev.cnone)
  | ((with_reducible refine' Ev.name ?hm ?hd); (case hd => decide); (case hm => walk_at "d.mem"))
  | ((with_reducible refine' Ev.op ?ha ?hb ?ho); (case ha => walk_at "d.ev"); (case hb => walk_at "d.ev"); (case ho => walk_at "d.op"))
  | ((with_reducible refine' Ev.cmp ?ha ?hb ?ho ?hm); (case ha => walk_at "d.ev"); (case hb => walk_at "d.ev"); (case ho => walk_at "d.op"); (case hm => with_unfolding_all rfl))
  | ((with_reducible refine' Ev.lower ?ha ?hn ?hm); (case ha => walk_at "d.ev"); (case hn => walk_at "d.num"); (case hm => walk_at "d.meth"))
  | ((with_reducible refine' Ev.upper ?ha ?hn ?hm); (case ha => walk_at "d.ev"); (case hn => walk_at "d.num"); (case hm => walk_at "d.meth"))
  | ((with_reducible refine' Ev.isupper ?ha ?hm); (case ha => walk_at "d.ev"); (case hm => walk_at "d.meth"))
  | ((with_reducible refine' Ev.strSlice ?ha ?hl ?hu ?hn); (case ha => walk_at "d.ev"); (case hl => walk_at "d.part"); (case hu => walk_at "d.part"); (case hn => walk_at "d.num"))
  | ((with_reducible refine' Ev.itemL (EvL.name ?hm ?hd) ?hb ?h0 ?ha ?hn ?hs); (case hm => walk_at "d.mem"); (case hd => decide); (case hb => walk_at "d.ev"); (case h0 => walk_at "d.num"); (case ha => assumption); (case hn => walk_at "d.num"); (case hs => (intro _ _; with_unfolding_all rfl)))
  | ((with_reducible refine' Ev.strItem ?ha ?hb ?hn ?h1 ?h2 ?hs); (case ha => walk_at "d.ev"); (case hb => walk_at "d.ev"); (case hn => walk_at "d.num"); (case h1 => walk_at "d.num"); (case h2 => walk_at "d.num"); (case hs => (intro _ _; with_unfolding_all rfl)))
  | ((with_reducible refine' Ev.lenStr ?hn ?hk ?ha ?hb ?hs); (case hn => kernel_rfl); (case hk => walk_at "d.kind"); (case ha => walk_at "d.ev"); (case hb => walk_at "d.num"); (case hs => exact rfl))
  | ((with_reducible refine' Ev.min2 ?hn ?hk ?ha ?hb ?hs ?ht ?hu); (case hn => kernel_rfl); (case hk => walk_at "d.kind"); (case ha => walk_at "d.ev"); (case hb => walk_at "d.ev"); (case hs => exact rfl); (case ht => exact rfl); (case hu => exact rfl))
  | ((with_reducible refine' Ev.typeStr ?hn ?hk ?ha ?hs); (case hn => kernel_rfl); (case hk => walk_at "d.kind"); (case ha => walk_at "d.ev"); (case hs => exact rfl))
  | ((with_reducible refine' Ev.isSub ?hn ?hk ?ha ?hb ?hs ?ht ?hu); (case hn => kernel_rfl); (case hk => walk_at "d.kind"); (case ha => walk_at "d.ev"); (case hb => walk_at "d.ev"); (case hs => exact rfl); (case ht => exact rfl); (case hu => exact rfl))
  | ((with_reducible refine' Ev.notBytes ?hn ?hk ?ha ?hb ?hs ?ht ?hu); (case hn => kernel_rfl); (case hk => walk_at "d.kind"); (case ha => walk_at "d.ev"); (case hb => walk_at "d.ev"); (case hs => exact rfl); (case ht => exact rfl); (case hu => exact rfl))
  | ((with_reducible refine' Ev.startswith ?ha ?hb ?hm ?hs); (case ha => walk_at "d.ev"); (case hb => walk_at "d.ev"); (case hm => walk_at "d.meth"); (case hs => exact rfl))
  | ((with_reducible refine' Ev.endswith ?ha ?hb ?hm ?hs); (case ha => walk_at "d.ev"); (case hb => walk_at "d.ev"); (case hm => walk_at "d.meth"); (case hs => exact rfl))
  | ((with_reducible refine' Ev.rfind ?ha ?hb ?hm ?hs); (case ha => walk_at "d.ev"); (case hb => walk_at "d.ev"); (case hm => walk_at "d.meth"); (case hs => exact rfl))
  | ((with_reducible refine' Ev.neg ?ha); (case ha => walk_at "d.ev"))
  | ((with_reducible refine' Ev.tuple ?ha ?hn); (case ha => walk_at "d.evs"); (case hn => exact (by simp [sizeLine_eq])))
  | ((with_reducible refine' Ev.globalInt ?hn ?hk ?hd); (case hn => exact rfl); (case hk => walk_at "d.kind"); (case hd => decide))
  | ((with_reducible refine' Ev.builtin ?hn ?hv ?hk ?hm ?hd); (case hn => kernel_rfl); (case hv => walk_at "d.boot"); (case hk => walk_at "d.kind"); (case hm => decide); (case hd => decide)))
local macro_rules | `(tactic| walk_at "d.boot") => `(tactic| first | (with_reducible exact boot_str_) | (with_reducible exact boot_bytes_))
local macro_rules | `(tactic| walk_at "d.part") => `(tactic| first | (with_reducible exact EvP.nothing) | ((with_reducible refine' EvP.num ?ha); (case ha => walk_at "d.ev")) | ((with_reducible refine' EvP.nil ?ha); (case ha => walk_at "d.ev")))
local macro_rules | `(tactic| walk_at "d.evs") => `(tactic| first | (with_reducible exact EvS.nil) | ((with_reducible refine' EvS.cons ?ha ?hb ?hs); (case ha => walk_at "d.ev"); (case hb => walk_at "d.evs"); (case hs => exact rfl)))
local macro_rules | `(tactic| walk_at "d.te") => `(tactic| first
  | ((with_reducible refine' Te.cmp ?ha ?hb ?ho ?hm); (case ha => walk_at "d.ev"); (case hb => walk_at "d.ev"); (case ho => walk_at "d.op"); (case hm => with_unfolding_all rfl))
  | ((with_reducible refine' Te.not ?ha); walk_at "d.te")
  | ((with_reducible refine' Te.plain ?ha ?hb ?hc); (case ha => walk_at "d.ev"); (case hb => walk_at "d.tru"); (case hc => exact rfl)))
local macro_rules | `(tactic| walk_at "d.ret") => `(tactic| (refine' Ex.ret ?e ?_; (case e => walk_at "d.ev"); exact fun h v S q => ⟨S.keep, q.flat (by constructor)⟩))
local macro_rules | `(tactic| walk_at "d.asg") => `(tactic| (refine' Ex.assign ?e ?u ?_ ?hs; (case e => walk_at "d.ev"); (case u => walk_at "d.upd"); (case hs => exact rfl)))
local macro_rules | `(tactic| walk_at "d.aug") => `(tactic| (refine' Ex.augm ?m ?e ?o ?u ?_; (case m => walk_at "d.mem"); (case e => walk_at "d.ev"); (case o => walk_at "d.op"); (case u => walk_at "d.upd")))
local macro_rules | `(tactic| walk_at "d.fgt") => `(tactic| first | (with_reducible exact Fgt.nil) | ((with_reducible refine' Fgt.same ?hu); (case hu => walk_at "d.fgt")) | ((with_reducible refine' Fgt.free ?hu); (case hu => walk_at "d.fgt")))
local macro_rules | `(tactic| walk_at "d.range1") => `(tactic| ((with_reducible refine' EvR.of1 ?hn ?hk ?ha ?hs); (case hn => kernel_rfl); (case hk => walk_at "d.kind"); (case ha => walk_at "d.ev"); (case hs => exact rfl)))
local macro_rules | `(tactic| walk_at "d.op") => `(tactic| ((with_reducible refine' op_iadd_str ?_); walk_at "d.num"))
local macro_rules | `(tactic| walk_at "d.ev") => `(tactic| first
  | (with_reducible exact Ev.slash) | (with_reducible exact Ev.empty) | (with_reducible exact Ev.dot) | (with_reducible exact Ev.dotdot)
  | ((with_reducible refine' Ev.fspath ?hn ?hx ?he ?hs); (case hn => decide); (case hx => walk_at "d.kind"); (case he => walk_at "d.ev"); (case hs => exact rfl))
  | ((with_reducible refine' Ev.sep ?hn ?hx ?he ?hs); (case hn => decide); (case hx => walk_at "d.kind"); (case he => walk_at "d.ev"); (case hs => exact rfl))
  | ((with_reducible refine' Ev.rstrip1 ?ha ?hb ?hn ?hm ?hs); (case ha => walk_at "d.ev"); (case hb => walk_at "d.ev"); (case hn => walk_at "d.num"); (case hm => walk_at "d.meth"); (case hs => exact rfl))
  | ((with_reducible refine' Ev.splitS ?ha ?hb ?hn ?hm ?hs); (case ha => walk_at "d.ev"); (case hb => walk_at "d.ev"); (case hn => walk_at "d.num"); (case hm => walk_at "d.meth"); (case hs => exact rfl)))
set_option maxHeartbeats 2000000 in
theorem law_ok (w : World) (cells : List Int) (hcl : cells.length ≤ 63) (hfin : FinOk (stackF (nums2 cells))) : CallP PG w (KK w) 9 179 [.list (cells.map .int)] (.bool true) := by
  refine CallP.gen (ps := ["script"]) (ls := ["stack", "parts", "way", "mended", "number", "deed", "head", "typed", "which", "meant", "slip", "wanted", "straight", "above", "names", "step", "last", "sound"]) (as' := [.list (cells.map .int)]) (fun _ => No) rfl rfl (by kernel_rfl) rfl rfl rfl rfl rfl (by decide +kernel) (by kernel_rfl) rfl ?bind (fun _ _ h => h) (fun _ _ h => h.elim) ?_
  case bind => exact BindOk.plain fun us h => match us, h with | [u], _ => rfl
  intro env h₀ hk hc B
  (try dsimp only at hk)
  have clast := hc "last" (by kernel_rfl)
  clear hc
  have hsz := sizeLine_eq
  refine Ex.pre (S := StS (KK w) env h₀ No (qv (.val (.list (cells.map .int))) .free .free .free .free .free .free .free .free .free .free .free .free .free .free .free .free .free .free)) ?_ (fun h q => q)
  refine' Ex.own4 (a1 := .list []) (a3 := .str (T [47])) (a4 := .str (T [47])) (ys := []) (V1 := qv (.val (.list (cells.map .int))) (.val (.list [])) .free .free .free .free .free .free .free .free .free .free .free .free .free .free .free .free .free)
    (V2 := fun l => qv (.val (.list (cells.map .int))) (.val (.list [])) (.own l true []) .free .free .free .free .free .free .free .free .free .free .free .free .free .free .free .free)
    (V3 := fun l => qv (.val (.list (cells.map .int))) (.val (.list [])) (.own l true []) (.val (.str (T [47]))) .free .free .free .free .free .free .free .free .free .free .free .free .free .free .free)
    (V4 := fun l => qv (.val (.list (cells.map .int))) (.val (.list [])) (.own l true []) (.val (.str (T [47]))) (.val (.str (T [47]))) .free .free .free .free .free .free .free .free .free .free .free .free .free .free)
    (Ev.ofN (Ev.list EvS.nil (by simp))) (Ev.list EvS.nil (by simp)) (fun l => Ev.slash) (fun l => Ev.slash) ?u1 (fun l => ?u2) (fun l => ?u3) (fun l => ?u4) (fun l => ?_) ?sw rfl rfl rfl rfl rfl
  case u1 => walk_at "d.upd"
  case u2 => walk_at "d.upd"
  case u3 => walk_at "d.upd"
  case u4 => walk_at "d.upd"
  case sw => rfl
  refine' Ex.forI (σ := S2) (xs := (nums2 cells).map fun n : Nat => .int (n : Int)) (fun c => qv (.val (.list (cells.map .int))) (.val (stAV c.stack)) (.own l true (c.ws.map pv)) (.val (.str (T (47 :: c.r)))) (.val (.str (T (47 :: c.m)))) .free .free .free .free .free .free .free .free .free .free .free .free .free .free)
    (fun i c => LI (nums2 cells) i c) (fun _ => False) ⟨[], [], [], []⟩ (EvI.to (EvI.list (Ev.ofN (EvN.add (EvL.of (Ev.ofN (EvN.comp (xs := (cells.map .int).take 3) (capt := []) (fun _ => true) modAV ?fc ?cell rfl ?nm rfl (EvI.list (Ev.ofN (EvN.slice (l := none) (u := some ((3 : Nat) : Int)) (EvL.of ?scr) EvP.nothing (EvP.num ?three) ?szs (pick_upto 3) (by intro _ _; rfl)))) ?szc ?capt ?ifs ?elt (by intro _; rfl)))) (EvL.of (Ev.ofN (Ev.list (as := [.int 72, .int 128, .int 5, .int 64]) ?lst (by simp [sizeLine_eq])))) ?sza))) ?xs) rfl (LI.zero _) ?turn ?done ?brk (by intro _; rfl)
  case fc => intro z hz; simp at hz
  case cell => decide
  case nm => decide
  case scr => walk_at "d.ev"
  case three =>
    refine' Ev.to (a := .int 3) ?th rfl
    case th => walk_at "d.ev"
  case szs => simp; omega
  case szc => simp; omega
  case capt => intro p hp; cases hp
  case ifs => exact fun cl C D i a ha hk' => Ifs.nil
  case elt =>
    intro cl C D i a ha _ hk' hcl
    have hm := List.mem_of_mem_take (List.mem_of_getElem? ha)
    obtain ⟨c, _, rfl⟩ := List.mem_map.mp hm
    refine' Ev.to (Ev.op ?e1 (Ev.op ?e2 ?e3 (op_pow_int (i := 10) (j := 6) (by decide) (by decide) (by decide))) (op_mod_int (j := 10 ^ (6 : Int).toNat) (by decide))) ?e4
    case e1 => walk_at "d.ev"
    case e2 => walk_at "d.ev"
    case e3 => walk_at "d.ev"
    case e4 => rfl
  case lst => walk_at "d.evs"
  case sza => exact Nat.le_trans (Nat.add_le_add_right (Nat.le_trans (by rw [List.length_map]; exact List.length_filter_le _ _) (List.length_take_le 3 _)) _) (by rw [hsz]; decide)
  case xs => exact nums2_av cells
  case brk => exact fun A R s E hS => hS.elim
  case done =>
    intro c hinv
    rw [List.length_map] at hinv
    have hc : c.stack = stackF (nums2 cells) := by
      have := hinv.stack
      rw [List.take_length] at this
      exact this
    rw [← hc] at hfin
    exact law_tail w env h₀ hk clast l _ c hinv (nums2_len cells) hfin
  case turn =>
    intro i a c hi hinv
    obtain ⟨n, hn, rfl⟩ : ∃ n : Nat, (nums2 cells)[i]? = some n ∧ a = .int (n : Int) := by
      simp at hi; obtain ⟨n, h1, h2⟩ := hi; exact ⟨n, h1, h2.symm⟩
    have hi6 : i < 7 := by have := (List.getElem?_eq_some_iff.mp hn).1; have := nums2_len cells; omega
    have hsl := hinv.sl
    have hrl := hinv.rl
    have hml := hinv.ml
    have hwl : c.ws.length ≤ 7 := by rw [hinv.ws]; simp; omega
    clear hi
    refine' ⟨_, ?u, ?tb⟩
    case u => walk_at "d.upd"
    refine' Ex.unpack (ps := [("number", .int ((n / 8 : Nat) : Int)), ("deed", .int ((n % 8 : Nat) : Int))]) (Ev.to (Ev.divmod (i := (n : Int)) (j := 8) ?dn ?dk ?d1 ?d2 (by decide) (PyProof.noPylong_small (by decide)) rfl rfl rfl) ?de) (.cons (.cons .nil)) (.cons ?u1 (.cons ?u2 .nil)) ?_ rfl rfl
    case dn => kernel_rfl
    case dk => walk_at "d.kind"
    case d1 => walk_at "d.ev"
    case d2 => walk_at "d.ev"
    case de => rw [Int.fdiv_eq_ediv_of_nonneg _ (by decide), Int.fmod_eq_emod_of_nonneg _ (by decide)]; rfl
    case u1 => walk_at "d.upd"
    case u2 => walk_at "d.upd"
    have hidx : [AV.str (T [46, 46]), .str (T []), .str (T [46])][(if n % 8 = 5 then (0 : Int) else 1 + ((n / 8 % 2 : Nat) : Int)).toNat]? = some (.str (T (word0 n))) := by
      unfold word0
      split
      · rfl
      · have : n / 8 % 2 = 0 ∨ n / 8 % 2 = 1 := by omega
        rcases this with e | e <;> rw [e] <;> rfl
    refine' Ex.swap (ps := [("head", .str (T [])), ("typed", .str (T (word0 n)))]) (Ev.tuple (EvS.cons ?h1 (EvS.cons (Ev.itemL (xs := [.str (T [46, 46]), .str (T []), .str (T [46])]) (EvL.of (Ev.ofN (Ev.list ?h2 (by simp [sizeLine_eq])))) (Ev.if_ (b := decide (n % 8 = 5)) (a := .int (if n % 8 = 5 then (0 : Int) else 1 + ((n / 8 % 2 : Nat) : Int))) ?h3 (fun hb => ?h4) (fun hb => ?h5)) ?h6 hidx (by simp [sizeLine_eq]) ?h7) EvS.nil rfl) rfl) (by simp [sizeLine_eq])) (Upds.cons (x := "typed") (a := .str (T (word0 n))) ?u1 (Upds.cons (x := "head") (a := .str (T [])) ?u2 Upds.nil)) ?_ ?sw rfl
    case h1 => walk_at "d.ev"
    case h2 => walk_at "d.evs"
    case h3 =>
      refine' Te.to ?a1 ?a2
      case a1 => walk_at "d.te"
      case a2 => rw [Bool.eq_iff_iff]; simp; omega
    case h4 =>
      rw [if_pos (of_decide_eq_true hb)]
      walk_at "d.ev"
    case h5 =>
      rw [if_neg (of_decide_eq_false hb)]
      refine' Ev.to (Ev.op ?a1 (Ev.op ?a2 ?a3 (op_mod_int (j := 2) (by decide))) op_add_int) ?a4
      case a1 => walk_at "d.ev"
      case a2 => walk_at "d.ev"
      case a3 => walk_at "d.ev"
      case a4 => rw [Int.fmod_eq_emod_of_nonneg _ (by decide)]; rfl
    case h6 => split <;> omega
    case h7 => intro _ _; with_unfolding_all rfl
    case u1 => walk_at "d.upd"
    case u2 => walk_at "d.upd"
    case sw => exact swapped_two hk.2 (hk.get (by kernel_rfl)) (hk.get (by kernel_rfl)) rfl (by decide) rfl rfl rfl rfl
    refine Ex.ite (b := decide (n % 8 = 5)) ?t (Ex.seq (T := StS (KK w) env h₀ (Add No l) (qv (.val (.list (cells.map .int))) (.val (stAV (step2 c.stack n))) (.own l true (c.ws.map pv)) (.val (.str (T (47 :: c.r)))) (.val (.str (T (47 :: c.m)))) .free .free (.val (.str (T (head2 n)))) (.val (.str (T (word2 n)))) .free .free .free .free .free .free .free .free .free .free)) ?br ?_)
    case t =>
      refine' Te.to ?a1 ?a2
      case a1 => walk_at "d.te"
      case a2 => rw [Bool.eq_iff_iff]; simp; omega
    case br =>
      by_cases h5 : n % 8 = 5
      · simp only [decide_eq_true h5, if_true]
        have e1 : step2 c.stack n = c.stack.take (c.stack.length - 1) := by unfold step2; rw [if_pos h5]
        have e2 : word2 n = word0 n := by unfold word2 word0; rw [if_pos h5, if_pos h5]
        have e3 : head2 n = [] := by unfold head2; rw [if_neg (by omega)]
        rw [e1, e2, e3]
        refine' Ex.assign (Ev.to (Ev.ofN (EvN.slice (l := none) (u := some (-((1 : Nat) : Int))) (EvL.of ?y1) EvP.nothing (EvP.num ?y2) ?y3 (pick_butLast 1 (by decide)) (by intro _ _; rfl))) ?ye) ?u (Ex.nil fun h s => s.forget ?fg) rfl
        case y1 => walk_at "d.ev"
        case y2 =>
          refine' Ev.to (a := .int (-1)) ?th rfl
          case th => walk_at "d.ev"
        case y3 => simp; omega
        case ye => exact (by rw [List.length_map, ← List.map_take] : AV.list ((c.stack.map It.av).take ((c.stack.map It.av).length - 1)) = stAV (c.stack.take (c.stack.length - 1)))
        case u => walk_at "d.upd"
        case fg => walk_at "d.fgt"
      · simp only [decide_eq_false h5, Bool.false_eq_true, if_false]
        refine Ex.ite (b := decide (n % 8 ≠ 6)) ?t0 ?z0
        case t0 =>
          refine' Te.to ?a1 ?a2
          case a1 => walk_at "d.te"
          case a2 =>
            have : ((((n % 8 : Nat) : Int) != 6) = true) ↔ n % 8 ≠ 6 := by rw [bne_iff_ne]; omega
            rw [Bool.eq_iff_iff, this, decide_eq_true_iff]
        case z0 =>
        by_cases h6 : n % 8 = 6
        · simp only [show decide (n % 8 ≠ 6) = false by simp [h6], Bool.false_eq_true, if_false]
          have e1 : step2 c.stack n = c.stack := by unfold step2; rw [if_neg h5, if_pos h6]
          have e2 : word2 n = word0 n := by unfold word2 word0; rw [if_neg h5, if_pos h6, if_neg h5]
          have e3 : head2 n = [] := by unfold head2; rw [if_neg (by omega)]
          rw [e1, e2, e3]
          refine Ex.nil fun h s => s.forget ?fg
          case fg => walk_at "d.fgt"
        simp only [show decide (n % 8 ≠ 6) = true by simp [h6], if_true]
        have e1 : step2 c.stack n = (if n % 8 = 7 then [] else c.stack) ++ [itOf (n / 8)] := by unfold step2; rw [if_neg h5, if_neg h6]
        have e2 : word2 n = (itOf (n / 8)).typed := by unfold word2; rw [if_neg h5, if_neg h6]
        have hio := itOf_ok (n / 8)
        rw [e1, e2]
        generalize n / 8 = m at hio ⊢
        refine' Ex.unpack (ps := [("number", .int ((m / 3 : Nat) : Int)), ("which", .int ((m % 3 : Nat) : Int))]) (Ev.to (Ev.divmod (i := (m : Int)) (j := 3) ?dn ?dk ?d1 ?d2 (by decide) (PyProof.noPylong_small (by decide)) rfl rfl rfl) ?de) (.cons (.cons .nil)) (.cons ?u1 (.cons ?u2 .nil)) ?_ rfl rfl
        case dn => kernel_rfl
        case dk => walk_at "d.kind"
        case d1 => walk_at "d.ev"
        case d2 => walk_at "d.ev"
        case de => rw [Int.fdiv_eq_ediv_of_nonneg _ (by decide), Int.fmod_eq_emod_of_nonneg _ (by decide)]; rfl
        case u1 => walk_at "d.upd"
        case u2 => walk_at "d.upd"
        have hnm : [AV.str (T [97, 97]), .str (T [98, 98]), .str (T [99, 99])][((m % 3 : Nat) : Int).toNat]? = some (.str (T (itOf m).meant)) := by
          show _ = some (AV.str (T [97 + m % 3, 97 + m % 3]))
          have : m % 3 = 0 ∨ m % 3 = 1 ∨ m % 3 = 2 := by omega
          rcases this with e | e | e <;> rw [e] <;> rfl
        refine' Ex.swap (ps := [("meant", .str (T (itOf m).meant)), ("slip", .int (((itOf m).slip : Nat) : Int))]) (Ev.tuple (EvS.cons (Ev.itemL (xs := [.str (T [97, 97]), .str (T [98, 98]), .str (T [99, 99])]) (EvL.of (Ev.ofN (Ev.list ?h2 (by simp [sizeLine_eq])))) ?h3 (by omega) hnm (by simp [sizeLine_eq]) ?h7) (EvS.cons (Ev.to (Ev.op ?h4 ?h5 (op_mod_int (j := 4) (by decide))) ?h6) EvS.nil rfl) rfl) (by simp [sizeLine_eq])) (Upds.cons (x := "slip") (a := .int (((itOf m).slip : Nat) : Int)) ?u1 (Upds.cons (x := "meant") (a := .str (T (itOf m).meant)) ?u2 Upds.nil)) ?_ ?sw rfl
        case h2 =>
          rw [show T [97, 97] = Str.ofString "aa" by decide +kernel, show T [98, 98] = Str.ofString "bb" by decide +kernel, show T [99, 99] = Str.ofString "cc" by decide +kernel]
          walk_at "d.evs"
        case h3 => walk_at "d.ev"
        case h4 => walk_at "d.ev"
        case h5 => walk_at "d.ev"
        case h6 => rw [Int.fmod_eq_emod_of_nonneg _ (by decide)]; rfl
        case h7 => intro _ _; with_unfolding_all rfl
        case u1 => walk_at "d.upd"
        case u2 => walk_at "d.upd"
        case sw => exact swapped_two hk.2 (hk.get (by kernel_rfl)) (hk.get (by kernel_rfl)) rfl (by decide) rfl rfl rfl rfl
        refine' Ex.assign (Ev.call (as := [.str (T (itOf m).meant), .int (((itOf m).slip : Nat) : Int), .int (((itOf m).place : Nat) : Int)]) (r := .str (T (itOf m).typed)) ?f1 ?f2 rfl rfl (EvS.cons ?f3 (EvS.cons ?f4 (EvS.cons (Ev.to (Ev.op (Ev.op ?f5 ?f6 (op_floordiv_int (j := 4) (by decide) (PyProof.noPylong_small (by decide)))) ?f7 (op_mod_int (j := 2) (by decide))) ?f8) EvS.nil rfl) rfl) rfl) ((typed_ok w _ _ _ hio.c hio.slip hio.place).up (by decide)) ⟨_, _, rfl⟩ (by decide)) ?u ?_ rfl
        case f1 => kernel_rfl
        case f2 => walk_at "d.kind"
        case f3 => walk_at "d.ev"
        case f4 => walk_at "d.ev"
        case f5 => walk_at "d.ev"
        case f6 => walk_at "d.ev"
        case f7 => walk_at "d.ev"
        case f8 => rw [Int.fdiv_eq_ediv_of_nonneg _ (by decide), Int.fmod_eq_emod_of_nonneg _ (by decide)]; rfl
        case u => walk_at "d.upd"
        refine' Ex.unpack (ps := [("head", .str (T (head2 n))), ("stack", stAV (if n % 8 = 7 then [] else c.stack))]) (Ev.if_ (b := decide (n % 8 = 7)) (a := .tup [.str (T (head2 n)), stAV (if n % 8 = 7 then [] else c.stack)]) ?h3 (fun hb => ?h4) (fun hb => ?h5)) (.cons (.cons .nil)) (.cons ?u1 (.cons ?u2 .nil)) ?_ rfl rfl
        case h3 =>
          refine' Te.to ?a1 ?a2
          case a1 => walk_at "d.te"
          case a2 => rw [Bool.eq_iff_iff]; simp; omega
        case h4 =>
          have h7 : n % 8 = 7 := of_decide_eq_true hb
          rw [if_pos h7, show head2 n = [47] from if_pos h7]
          refine' Ev.tuple (as := [.str (T [47]), .list []]) (EvS.cons ?a1 (EvS.cons (Ev.ofN (Ev.list EvS.nil (by simp))) EvS.nil rfl) rfl) (by simp [sizeLine_eq])
          case a1 => walk_at "d.ev"
        case h5 =>
          have h7 : ¬ n % 8 = 7 := of_decide_eq_false hb
          rw [if_neg h7, show head2 n = [] from if_neg h7]
          refine' Ev.tuple (EvS.cons ?a1 (EvS.cons ?a2 EvS.nil rfl) rfl) (by simp [sizeLine_eq])
          case a1 => walk_at "d.ev"
          case a2 => walk_at "d.ev"
        case u1 => walk_at "d.upd"
        case u2 => walk_at "d.upd"
        have hsl2 : (if n % 8 = 7 then [] else c.stack).length ≤ 7 := by split <;> first | (simp; done) | omega
        generalize (if n % 8 = 7 then [] else c.stack) = S at hsl2 ⊢
        have hcs : [AV.int 0, .int 2, .int 2, .int 1][(((itOf m).slip : Nat) : Int).toNat]? = some (.int (itOf m).cost) := by
          have h4 := hio.slip
          unfold It.cost costF
          generalize (itOf m).slip = sl at h4
          have : sl = 0 ∨ sl = 1 ∨ sl = 2 ∨ sl = 3 := by omega
          rcases this with e | e | e | e <;> rw [e] <;> rfl
        refine' Ex.assign (Ev.to (Ev.ofN (EvN.add (xs := S.map It.av) (EvL.of ?g1) (EvL.of (Ev.ofN (Ev.list (as := [(itOf m).av]) (EvS.cons (Ev.tuple (as := [.str (T (itOf m).meant), .str (T (itOf m).typed), .int (itOf m).cost]) (EvS.cons ?g2 (EvS.cons ?g3 (EvS.cons (Ev.itemL (xs := [.int 0, .int 2, .int 2, .int 1]) (EvL.of (Ev.ofN (Ev.list ?g4 (by simp [sizeLine_eq])))) ?g5 (by omega) hcs (by simp [sizeLine_eq]) ?g6) EvS.nil rfl) rfl) rfl) (by simp [sizeLine_eq])) EvS.nil rfl) (by simp [sizeLine_eq])))) (by simp; omega))) ?ye) ?u (Ex.nil fun h s => s.forget ?fg) rfl
        case g1 => walk_at "d.ev"
        case g2 => walk_at "d.ev"
        case g3 => walk_at "d.ev"
        case g4 => walk_at "d.evs"
        case g5 => walk_at "d.ev"
        case g6 => intro _ _; with_unfolding_all rfl
        case ye => exact (by rw [stAV, List.map_append]; rfl : AV.list (S.map It.av ++ [(itOf m).av]) = stAV (S ++ [itOf m]))
        case u => walk_at "d.upd"
        case fg => walk_at "d.fgt"
    have hwd : (word2 n).length ≤ 3 := by
      unfold word2
      split
      · decide
      · split
        · split <;> decide
        · exact (typed_facts _ (itOf_ok _)).2.2.2.2
    have hmd : (mend2 n).length ≤ 3 := by
      unfold mend2
      split
      · decide
      · split
        · split <;> decide
        · exact (meant_facts _ (itOf_ok _)).2.2.2.2
    have hhd : (head2 n).length ≤ 1 := by unfold head2; split <;> decide
    obtain ⟨r', m', j1, j2, hinv'⟩ := hinv.step hn
    refine' Ex.append (l := l) (xs := c.ws.map pv) (a := pv n) ?m (Ev.tuple (as := [.str (T (word2 n)), .str (T (mend2 n))]) (EvS.cons ?e1 (EvS.cons (Ev.to (Ev.call (as := [.str (T (word2 n))]) (r := .str (mendS (word2 n))) ?f1 ?f2 rfl rfl (EvS.cons ?f3 EvS.nil rfl) ((mended_ok w (word2 n) (by omega)).up (by decide)) ⟨_, _, rfl⟩ (by decide)) ?e2) EvS.nil rfl) rfl) (by simp [sizeLine_eq])) (by simp; omega) ?u2 ?z1 ?mt rfl (by decide) rfl (interactive_of hk)
    case m => walk_at "d.mem"
    case e1 => walk_at "d.ev"
    case f1 => kernel_rfl
    case f2 => walk_at "d.kind"
    case f3 => walk_at "d.ev"
    case e2 => exact congrArg AV.str (mend_word n)
    case u2 => walk_at "d.upd"
    case mt => walk_at "d.meth"
    case z1 =>
    have hl1 : (T (head2 n)).length + (T (word2 n)).length ≤ sizeLine := by rw [T_length, T_length]; omega
    have hl2 : (T (head2 n)).length + (T (mend2 n)).length ≤ sizeLine := by rw [T_length, T_length]; omega
    refine' Ex.assign (Ev.to (Ev.join2 (x := 47 :: c.r) (y := head2 n ++ word2 n) (by decide) ?k ?e (Ev.to (Ev.op ?e1 ?e2 (op_add_str hl1)) (congrArg AV.str (T_append _ _))) (by simp; omega) (by simp; omega) rfl rfl) (congrArg (fun l => AV.str (T l)) j1)) ?u ?_ rfl
    case k => walk_at "d.kind"
    case e => walk_at "d.ev"
    case e1 => walk_at "d.ev"
    case e2 => walk_at "d.ev"
    case u => walk_at "d.upd"
    have hlast : (c.ws.map pv ++ [pv n])[((-1 : Int) + ((c.ws.map pv ++ [pv n]).length : Nat)).toNat]? = some (pv n) := by
      rw [show ((-1 : Int) + ((c.ws.map pv ++ [pv n]).length : Nat)).toNat = (c.ws.map pv).length by simp; omega]
      simp
    refine' Ex.assign (Ev.to (Ev.join2 (x := 47 :: c.m) (y := head2 n ++ mend2 n) (by decide) ?k ?e (Ev.to (Ev.op ?e1 (Ev.itemT (xs := [.str (T (word2 n)), .str (T (mend2 n))]) (i := 1) (j := 1) (a := .str (T (mend2 n))) (Ev.itemLneg (i := -1) (EvL.name (l := l) (pp := true) ?m1 (by decide)) ?i1 (by decide) (by simp; omega) hlast (by simp; omega) ?s1) ?i2 rfl rfl (by decide) ?s2) (op_add_str hl2)) (congrArg AV.str (T_append _ _))) (by simp; omega) (by simp; omega) rfl rfl) (congrArg (fun l => AV.str (T l)) j2)) ?u ?_ rfl
    case k => walk_at "d.kind"
    case e => walk_at "d.ev"
    case e1 => walk_at "d.ev"
    case m1 => walk_at "d.mem"
    case i1 => walk_at "d.ev"
    case s1 => intro _ _; with_unfolding_all rfl
    case i2 => walk_at "d.ev"
    case s2 => intro _ _; with_unfolding_all rfl
    case u => walk_at "d.upd"
    rw [show (c.ws.map pv ++ [pv n]) = (c.ws ++ [n]).map pv by simp]
    refine Ex.nil fun h q => ⟨_, hinv', q.forget ?fg⟩
    case fg => walk_at "d.fgt"
end Mine

end T_QW

section T_Q4
open PySem PySem.W PyProof.Rows PySem.Calls PySem.Spec
set_option linter.unusedVariables false
set_option linter.unusedSimpArgs false
set_option maxRecDepth 100000
namespace Mine
/-! ## alignments -/
inductive Al : List Nat → List Nat → Int → Prop
  | nil : Al [] [] 0
  | del {a b : List Nat} {n : Int} (x : Nat) : Al a b n → Al (x :: a) b (n + 2)
  | ins {a b : List Nat} {n : Int} (y : Nat) : Al a b n → Al a (y :: b) (n + 2)
  | sub {a b : List Nat} {n : Int} (x y : Nat) : Al a b n → Al (x :: a) (y :: b) (n + sc x y)
theorem Al.to {a b : List Nat} {n m : Int} (h : Al a b n) (e : n = m) : Al a b m := e ▸ h
theorem sc_symm (x y : Nat) : sc x y = sc y x := by
  unfold sc subCost
  rw [show (T [x] == T [y]) = (T [y] == T [x]) from BEq.comm, show (Txt.lower (T [x]) == Txt.lower (T [y])) = (Txt.lower (T [y]) == Txt.lower (T [x])) from BEq.comm]
theorem sc_nonneg (x y : Nat) : 0 ≤ sc x y ∧ sc x y ≤ 2 := by
  unfold sc subCost
  split
  · decide
  · split <;> decide
theorem Al.symm {a b : List Nat} {n : Int} (h : Al a b n) : Al b a n := by
  induction h with
  | nil => exact .nil
  | del x _ ih => exact .ins x ih
  | ins y _ ih => exact .del y ih
  | sub x y _ ih => exact (Al.sub y x ih).to (by rw [sc_symm])
theorem Al.app {a b : List Nat} {n : Int} (h : Al a b n) {c d : List Nat} {m : Int} (k : Al c d m) : Al (a ++ c) (b ++ d) (n + m) := by
  induction h with
  | nil => exact k.to (by omega)
  | del x _ ih => exact (Al.del x ih).to (by omega)
  | ins y _ ih => exact (Al.ins y ih).to (by omega)
  | sub x y _ ih => exact (Al.sub x y ih).to (by omega)
theorem Al.rev {a b : List Nat} {n : Int} (h : Al a b n) : Al a.reverse b.reverse n := by
  induction h with
  | nil => exact .nil
  | @del a b n x _ ih => rw [List.reverse_cons]; have := ih.app (Al.del x Al.nil); rw [List.append_nil] at this; exact this.to (by omega)
  | @ins a b n y _ ih => rw [List.reverse_cons]; have := ih.app (Al.ins y Al.nil); rw [List.append_nil] at this; exact this.to (by omega)
  | @sub a b n x y _ ih => rw [List.reverse_cons, List.reverse_cons]; exact (ih.app (Al.sub x y Al.nil)).to (by omega)
theorem Al.noA {b : List Nat} : ∀ {n : Int}, Al [] b n → n = 2 * b.length := by
  induction b with
  | nil => intro n h; cases h; rfl
  | cons y b ih => intro n h; cases h with | ins _ h => rw [ih h, List.length_cons]; omega
theorem Al.cutA {a b : List Nat} {n : Int} (h : Al a b n) : ∀ {x : Nat} {a' : List Nat}, a = x :: a' → ∃ m, m ≤ n + 2 ∧ Al a' b m := by
  induction h with
  | nil => intro x a' e; cases e
  | @del a b n x h ih => intro z a' e; cases e; exact ⟨n, by omega, h⟩
  | @ins a b n y h ih => intro z a' e; obtain ⟨m, h1, h2⟩ := ih e; exact ⟨m + 2, by omega, .ins y h2⟩
  | @sub a b n x y h ih => intro z a' e; cases e; exact ⟨n + 2, by have := sc_nonneg x y; omega, .ins y h⟩
theorem Al.cutB {a b : List Nat} {n : Int} {y : Nat} (h : Al a (y :: b) n) : ∃ m, m ≤ n + 2 ∧ Al a b m := by
  obtain ⟨m, h1, h2⟩ := h.symm.cutA rfl
  exact ⟨m, h1, h2.symm⟩
theorem Al.trim1 {x : Nat} {a b : List Nat} {n : Int} (h : Al (x :: a) (x :: b) n) : ∃ m, m ≤ n ∧ Al a b m := by
  cases h with
  | del _ h => obtain ⟨m, h1, h2⟩ := h.cutB; exact ⟨m, h1, h2⟩
  | ins _ h => obtain ⟨m, h1, h2⟩ := h.cutA rfl; exact ⟨m, h1, h2⟩
  | @sub _ _ n _ _ h => exact ⟨n, by have := sc_nonneg x x; omega, h⟩
/-- a text's weight, and an alignment no dearer than what the weights part by -/
def wc (c : Nat) : Int := if c = 55 then 2 else if 65 ≤ c ∧ c < 97 then 1 else 0
def W (a : List Nat) : Int := (a.map wc).sum
theorem W_nil : W [] = 0 := rfl
theorem W_cons (x : Nat) (a : List Nat) : W (x :: a) = wc x + W a := by simp [W]
theorem W_app (a b : List Nat) : W (a ++ b) = W a + W b := by simp [W, List.sum_append]
theorem W_rev (a : List Nat) : W a.reverse = W a := by
  induction a with
  | nil => rfl
  | cons x a ih => rw [List.reverse_cons, W_app, ih, W_cons, W_cons, W_nil]; omega
structure Gd (a b : List Nat) (N : Int) : Prop where
  w : W b - W a = N
  al : ∃ m, m ≤ N ∧ Al a b m
theorem Gd.front : ∀ {a b : List Nat} {N : Int}, Gd a b N → Gd (a.drop (cpl a b)) (b.drop (cpl a b)) N
  | [], _, _, h => by simpa [cpl] using h
  | x :: a, [], _, h => by simpa [cpl] using h
  | x :: a, y :: b, N, h => by
    unfold cpl
    split
    · rename_i e
      subst e
      refine Gd.front (a := a) (b := b) ⟨?_, ?_⟩
      · have := h.w; rw [W_cons, W_cons] at this; omega
      · obtain ⟨m, h1, h2⟩ := h.al
        obtain ⟨k, h3, h4⟩ := h2.trim1
        exact ⟨k, by omega, h4⟩
    · exact h
theorem Gd.rev {a b : List Nat} {N : Int} (h : Gd a b N) : Gd a.reverse b.reverse N :=
  ⟨by rw [W_rev, W_rev]; exact h.w, let ⟨m, h1, h2⟩ := h.al; ⟨m, h1, h2.rev⟩⟩
theorem Gd.back {a b : List Nat} {N : Int} (h : Gd a b N) : Gd (a.take (a.length - cpl a.reverse b.reverse)) (b.take (b.length - cpl a.reverse b.reverse)) N := by
  have := h.rev.front.rev
  rw [List.drop_reverse, List.drop_reverse, List.reverse_reverse, List.reverse_reverse] at this
  exact this
/-! ## the table -/
def alpha : List Nat := [47, 55, 65, 66, 67, 97, 98, 99]
theorem alpha_dec : (alpha.all fun x => alpha.all fun y => decide (wc x - wc y ≤ sc x y)) = true := by decide +kernel
theorem sc_wc {x y : Nat} (hx : x ∈ alpha) (hy : y ∈ alpha) : wc x - wc y ≤ sc x y ∧ wc y - wc x ≤ sc x y :=
  ⟨of_decide_eq_true (List.all_eq_true.mp (List.all_eq_true.mp alpha_dec x hx) y hy), by rw [sc_symm]; exact of_decide_eq_true (List.all_eq_true.mp (List.all_eq_true.mp alpha_dec y hy) x hx)⟩
theorem wc_le (x : Nat) : 0 ≤ wc x ∧ wc x ≤ 2 := by unfold wc; split <;> (try split) <;> decide
theorem W_le : ∀ a : List Nat, 0 ≤ W a ∧ W a ≤ 2 * a.length
  | [] => by simp [W_nil]
  | x :: a => by have h1 := W_le a; have h2 := wc_le x; rw [W_cons, List.length_cons]; omega
section
variable {la lb : List Nat}
structure Qv (la lb : List Nat) (i j : Nat) (v : Int) : Prop where
  lo : W (lb.take j) - W (la.take i) ≤ v
  lo' : W (la.take i) - W (lb.take j) ≤ v
  up : ∀ n, Al (la.take i).reverse (lb.take j).reverse n → v ≤ n
structure St3 (la lb : List Nat) (j i : Nat) (s : List Int × Int × Int × Int) : Prop where
  len : s.1.length = la.length
  new : ∀ k, k < i → k < la.length → Qv la lb (k + 1) (j + 1) (s.1.getD k 0)
  old : ∀ k, i ≤ k → k < la.length → Qv la lb (k + 1) j (s.1.getD k 0)
  dist : Qv la lb i j s.2.1
  res : 0 < i → Qv la lb i (j + 1) s.2.2.1
  res0 : i = 0 → s.2.2.1 = 2 * (j : Int)
  mnm : 0 < i → s.2.2.2 ≤ 2 * (j : Int) + 4
theorem take_succ' {l : List Nat} {i : Nat} (h : i < l.length) : l.take (i + 1) = l.take i ++ [l.getD i 0] := by
  rw [List.take_add_one, List.getElem?_eq_getElem h, List.getD_eq_getElem?_getD, List.getElem?_eq_getElem h]; rfl
theorem min_help {v mn B : Int} (h : v ≤ B ∨ mn ≤ B) : (if v < mn then v else mn) ≤ B := by split <;> omega
theorem St3.step (ha : ∀ x ∈ la, x ∈ alpha) (hb : ∀ x ∈ lb, x ∈ alpha) {i j : Nat} {s : List Int × Int × Int × Int} (h : St3 la lb j i s) (hi : i < la.length) (hj : j < lb.length) :
    St3 la lb j (i + 1) (istep (lb.getD j 0) la i s) := by
  obtain ⟨row, dist, res, mn⟩ := s
  have hx : la.getD i 0 ∈ la := by rw [List.getD_eq_getElem?_getD, List.getElem?_eq_getElem hi]; exact List.getElem_mem hi
  have hy : lb.getD j 0 ∈ lb := by rw [List.getD_eq_getElem?_getD, List.getElem?_eq_getElem hj]; exact List.getElem_mem hj
  have hta := take_succ' hi
  have htb := take_succ' hj
  have hsw := sc_wc (ha _ hx) (hb _ hy)
  have hsn := sc_nonneg (la.getD i 0) (lb.getD j 0)
  have hss := sc_symm (la.getD i 0) (lb.getD j 0)
  have hwx := wc_le (la.getD i 0)
  have hwy := wc_le (lb.getD j 0)
  have hWa := W_le (la.take i)
  have hWb := W_le (lb.take j)
  have e1 : W (la.take (i + 1)) = W (la.take i) + wc (la.getD i 0) := by rw [hta, W_app, W_cons, W_nil]; omega
  have e2 : W (lb.take (j + 1)) = W (lb.take j) + wc (lb.getD j 0) := by rw [htb, W_app, W_cons, W_nil]; omega
  have ho := h.old i (Nat.le_refl _) hi
  have hd := h.dist
  have hlen := h.len
  simp only at ho hd hlen
  have hres : W (lb.take (j + 1)) - W (la.take (i + 1)) ≤ res + 2 ∧ W (la.take (i + 1)) - W (lb.take (j + 1)) ≤ res + 2 ∧ ∀ n, Al (la.take i).reverse (lb.take (j + 1)).reverse n → res ≤ n := by
    by_cases h0 : i = 0
    · have hr : res = 2 * (j : Int) := h.res0 h0
      have hl1 : (lb.take j).length ≤ j := List.length_take_le _ _
      subst h0
      rw [List.take_zero, W_nil] at e1
      refine ⟨by omega, by omega, fun n hn => ?_⟩
      rw [List.take_zero, List.reverse_nil] at hn
      have := hn.noA
      rw [List.length_reverse, htb, List.length_append, List.length_take, List.length_singleton] at this
      omega
    · have hr := h.res (by omega)
      simp only at hr
      have h1 := hr.lo
      have h2 := hr.lo'
      refine ⟨by omega, by omega, hr.up⟩
  have hnew : Qv la lb (i + 1) (j + 1) (min (min res (row.getD i 0) + 2) (dist + sc (lb.getD j 0) (la.getD i 0))) := by
    have a1 := ho.lo
    have a2 := ho.lo'
    have a3 := hd.lo
    have a4 := hd.lo'
    refine ⟨by omega, by omega, fun n hn => ?_⟩
    rw [hta, htb, List.reverse_append, List.reverse_append] at hn
    simp only [List.reverse_cons, List.reverse_nil, List.nil_append, List.cons_append] at hn
    cases hn with
    | @del _ _ n _ hn =>
      have := hres.2.2 n (by rw [htb, List.reverse_append]; exact hn)
      omega
    | @ins _ _ n _ hn =>
      have := ho.up n (by rw [hta, List.reverse_append]; exact hn)
      omega
    | @sub _ _ n _ _ hn =>
      have := hd.up n hn
      omega
  refine ⟨by simp [istep, hlen], fun k hk hkl => ?_, fun k hk hkl => ?_, ?_, fun _ => hnew, fun e => by omega, fun _ => ?_⟩
  · show Qv la lb (k + 1) (j + 1) ((row.set i _).getD k 0)
    rw [List.getD_eq_getElem?_getD, List.getElem?_set]
    split
    · rename_i e
      subst e
      rw [if_pos (by omega)]
      exact hnew
    · have := h.new k (by omega) hkl
      rw [← List.getD_eq_getElem?_getD]; exact this
  · show Qv la lb (k + 1) j ((row.set i _).getD k 0)
    rw [List.getD_eq_getElem?_getD, List.getElem?_set, if_neg (by omega), ← List.getD_eq_getElem?_getD]
    exact h.old k (by omega) hkl
  · show Qv la lb (i + 1) j (row.getD i 0)
    exact ho
  · refine min_help (v := min (min res (row.getD i 0) + 2) (dist + sc (lb.getD j 0) (la.getD i 0))) (mn := mn) ?_
    by_cases h0 : i = 0
    · have hr : res = 2 * (j : Int) := h.res0 h0
      left; omega
    · have : mn ≤ 2 * (j : Int) + 4 := h.mnm (by omega)
      right; omega
theorem St3.run (ha : ∀ x ∈ la, x ∈ alpha) (hb : ∀ x ∈ lb, x ∈ alpha) {j : Nat} {s : List Int × Int × Int × Int} (h : St3 la lb j 0 s) (hj : j < lb.length) : ∀ i, i ≤ la.length → St3 la lb j i (ist (lb.getD j 0) la s i)
  | 0, _ => h
  | i + 1, hi => (St3.run ha hb h hj i (by omega)).step ha hb (by omega) hj
theorem dp_run (ha : ∀ x ∈ la, x ∈ alpha) (hb : ∀ x ∈ lb, x ∈ alpha) (hne : 0 < la.length) (hlb : lb.length ≤ 40) : ∀ (k j : Nat) (row : List Int) (r : Int), j + k = lb.length → row.length = la.length → (∀ i, i < la.length → Qv la lb (i + 1) j (row.getD i 0)) → (0 < j → Qv la lb la.length j r) → 0 < lb.length →
    Qv la lb la.length lb.length (dpGo la lb 99 k j row r)
  | 0, j, row, r, hk, hl, hrow, hr, hp => by
    have : j = lb.length := by omega
    subst this
    exact hr hp
  | k + 1, j, row, r, hk, hl, hrow, hr, hp => by
    have hj : j < lb.length := by omega
    have h0 : St3 la lb j 0 (row, 2 * (j : Int), 2 * (j : Int), 9223372036854775807) := by
      refine ⟨hl, fun k hk => by omega, fun k _ hk => hrow k hk, ?_, fun h => by omega, fun _ => rfl, fun h => by omega⟩
      have hW := W_le (lb.take j)
      have hl1 : (lb.take j).length = j := by rw [List.length_take]; omega
      show Qv la lb 0 j (2 * (j : Int))
      refine ⟨by rw [List.take_zero, W_nil]; omega, by rw [List.take_zero, W_nil]; omega, fun n hn => ?_⟩
      rw [List.take_zero, List.reverse_nil] at hn
      have := hn.noA
      rw [List.length_reverse, hl1] at this
      omega
    have h1 := St3.run ha hb h0 hj la.length (Nat.le_refl _)
    unfold dpGo
    have hm := h1.mnm hne
    simp only
    rw [if_neg (by omega)]
    exact dp_run ha hb hne hlb k (j + 1) _ _ (by omega) h1.len (fun i hi => h1.new i hi hi) (fun _ => h1.res hne) hp
theorem levD_eq (ha : ∀ x ∈ la, x ∈ alpha) (hb : ∀ x ∈ lb, x ∈ alpha) (h1 : 0 < la.length) (h2 : 0 < lb.length) (hlb : lb.length ≤ 40) {N : Int} (hw : W lb - W la = N ∨ W la - W lb = N) (hal : ∃ m, m ≤ N ∧ Al la lb m) : levD la lb 99 = N := by
  unfold levD
  rw [if_neg (by omega)]
  have hq := dp_run ha hb h1 hlb lb.length 0 ((List.range la.length).map fun (i : Nat) => 2 + (i : Int) * 2) 0 (by omega) (by simp) (fun i hi => by
    rw [show ((List.range la.length).map fun (i : Nat) => 2 + (i : Int) * 2).getD i 0 = 2 + (i : Int) * 2 by rw [List.getD_eq_getElem?_getD, List.getElem?_map, List.getElem?_range hi]; rfl]
    have hW := W_le (la.take (i + 1))
    have hl1 : (la.take (i + 1)).length = i + 1 := by rw [List.length_take]; omega
    refine ⟨by rw [List.take_zero, W_nil]; omega, by rw [List.take_zero, W_nil]; omega, fun n hn => ?_⟩
    rw [List.take_zero, List.reverse_nil] at hn
    have := hn.symm.noA
    rw [List.length_reverse, hl1] at this
    omega) (fun h => by omega) h2
  have l1 := hq.lo
  have l2 := hq.lo'
  rw [List.take_length, List.take_length] at l1 l2
  obtain ⟨m, hm, hA⟩ := hal
  have := hq.up m (by rw [List.take_length, List.take_length]; exact hA.rev)
  omega
end
theorem lev_eq {a b : List Nat} {N : Int} (ha : ∀ x ∈ a, x ∈ alpha) (hb : ∀ x ∈ b, x ∈ alpha) (hla : a.length ≤ 40) (hlb : b.length ≤ 40) (h : Gd a b N) : lev a b 99 = N := by
  unfold lev
  split
  · rename_i e
    subst e
    have := h.w
    omega
  · have hg := h.front.back
    have ha1 : ∀ x ∈ (a.drop (cpl a b)).take ((a.drop (cpl a b)).length - cpl (a.drop (cpl a b)).reverse (b.drop (cpl a b)).reverse), x ∈ alpha := fun x hx => ha x (List.mem_of_mem_drop (List.mem_of_mem_take hx))
    have hb1 : ∀ x ∈ (b.drop (cpl a b)).take ((b.drop (cpl a b)).length - cpl (a.drop (cpl a b)).reverse (b.drop (cpl a b)).reverse), x ∈ alpha := fun x hx => hb x (List.mem_of_mem_drop (List.mem_of_mem_take hx))
    have hla1 : ((a.drop (cpl a b)).take ((a.drop (cpl a b)).length - cpl (a.drop (cpl a b)).reverse (b.drop (cpl a b)).reverse)).length ≤ 40 := by rw [List.length_take, List.length_drop]; omega
    have hlb1 : ((b.drop (cpl a b)).take ((b.drop (cpl a b)).length - cpl (a.drop (cpl a b)).reverse (b.drop (cpl a b)).reverse)).length ≤ 40 := by rw [List.length_take, List.length_drop]; omega
    simp only
    generalize (a.drop (cpl a b)).take ((a.drop (cpl a b)).length - cpl (a.drop (cpl a b)).reverse (b.drop (cpl a b)).reverse) = x at *
    generalize (b.drop (cpl a b)).take ((b.drop (cpl a b)).length - cpl (a.drop (cpl a b)).reverse (b.drop (cpl a b)).reverse) = y at *
    unfold levT
    obtain ⟨m, hm, hA⟩ := hg.al
    have hw := hg.w
    have hWx := W_le x
    have hWy := W_le y
    split
    · rename_i e
      rcases e with e | e
      · subst e
        have := hA.noA
        rw [W_nil] at hw
        simp only [List.length_nil]
        omega
      · subst e
        have := hA.symm.noA
        rw [W_nil] at hw
        simp only [List.length_nil]
        omega
    · rename_i e
      have hx : 0 < x.length := List.length_pos_iff.mpr fun q => e (.inl q)
      have hy : 0 < y.length := List.length_pos_iff.mpr fun q => e (.inr q)
      rw [if_neg (by omega)]
      split
      · exact levD_eq hb1 ha1 hy hx hla1 (.inr hw) ⟨m, hm, hA.symm⟩
      · exact levD_eq ha1 hb1 hx hy hlb1 (.inl hw) ⟨m, hm, hA⟩
end Mine

end T_Q4

section T_Q5
open PySem PySem.W PyProof.Rows PySem.Calls PySem.Spec
set_option linter.unusedVariables false
set_option linter.unusedSimpArgs false
set_option maxRecDepth 100000
namespace Mine
theorem sc_fin : ([97, 98, 99].all fun c => (sc c c == 0) && (sc c 55 == 2) && (sc c (c - 32) == 1)) = true := by decide +kernel
theorem sc_47 : sc 47 47 = 0 := by decide +kernel
theorem w_fin : ([97, 98, 99].all fun c => [0, 1, 2, 3].all fun slip => [0, 1].all fun place => (W (typedF c slip place) - W [c, c] == costF slip) && (typedF c slip place).all alpha.contains && alpha.contains c) = true := by decide +kernel
theorem It.ok.al {i : It} (h : i.ok) : Al i.meant i.typed i.cost := by
  obtain ⟨c, slip, place⟩ := i
  have hs := List.all_eq_true.mp sc_fin c h.c
  simp only [Bool.and_eq_true, beq_iff_eq] at hs
  obtain ⟨⟨s0, s2⟩, s1⟩ := hs
  have h4 : slip < 4 := h.slip
  have h2 : place < 2 := h.place
  clear h
  have hp : place = 0 ∨ place = 1 := by omega
  have hq : slip = 0 ∨ slip = 1 ∨ slip = 2 ∨ slip = 3 := by omega
  rcases hq with rfl | rfl | rfl | rfl <;> rcases hp with rfl | rfl
  · exact (Al.sub c c (Al.sub c c .nil)).to (by rw [s0]; rfl)
  · exact (Al.sub c c (Al.sub c c .nil)).to (by rw [s0]; rfl)
  · exact (Al.ins 55 (Al.sub c c (Al.sub c c .nil))).to (by rw [s0]; rfl)
  · exact (Al.sub c c (Al.ins 55 (Al.sub c c .nil))).to (by rw [s0]; rfl)
  · exact (Al.sub c 55 (Al.sub c c .nil)).to (by rw [s0, s2]; rfl)
  · exact (Al.sub c c (Al.sub c 55 .nil)).to (by rw [s0, s2]; rfl)
  · exact (Al.sub c (c - 32) (Al.sub c c .nil)).to (by rw [s0, s1]; rfl)
  · exact (Al.sub c c (Al.sub c (c - 32) .nil)).to (by rw [s0, s1]; rfl)
theorem It.ok.w {i : It} (h : i.ok) : W i.typed - W i.meant = i.cost ∧ (∀ x ∈ i.typed, x ∈ alpha) ∧ ∀ x ∈ i.meant, x ∈ alpha := by
  have hf := List.all_eq_true.mp (List.all_eq_true.mp (List.all_eq_true.mp w_fin i.c h.c) i.slip (by have := h.slip; simp; omega)) i.place (by have := h.place; simp; omega)
  simp only [Bool.and_eq_true, beq_iff_eq] at hf
  obtain ⟨⟨h1, h2⟩, h3⟩ := hf
  have h3' := List.contains_iff_mem.mp h3
  refine ⟨h1, fun x hx => List.contains_iff_mem.mp (List.all_eq_true.mp h2 x hx), fun x hx => ?_⟩
  have : x = i.c := by
    have hx' : x ∈ [i.c, i.c] := hx
    simpa using hx'
  rw [this]; exact h3'
theorem al_jn : ∀ (S : List It), (∀ x ∈ S, x.ok) → Al (47 :: jn (S.map It.meant)) (47 :: jn (S.map It.typed)) (S.map It.cost).sum
  | [], _ => (Al.sub 47 47 .nil).to (by rw [sc_47]; rfl)
  | [x], h => (Al.sub 47 47 (h x (by simp)).al).to (by rw [sc_47]; simp)
  | x :: y :: S, h => by
    have h1 := (h x (by simp)).al
    have h2 := al_jn (y :: S) fun z hz => h z (by simp [hz])
    have h3 := (Al.sub 47 47 h1).app h2
    refine Al.to (a := 47 :: jn ((x :: y :: S).map It.meant)) (b := 47 :: jn ((x :: y :: S).map It.typed)) (n := x.cost + sc 47 47 + ((y :: S).map It.cost).sum) h3 ?_
    rw [sc_47, List.map_cons (l := y :: S), List.sum_cons]; omega
theorem w_jn : ∀ (S : List It), (∀ x ∈ S, x.ok) → W (47 :: jn (S.map It.typed)) - W (47 :: jn (S.map It.meant)) = (S.map It.cost).sum
  | [], _ => rfl
  | [x], h => by
    have := (h x (by simp)).w.1
    show W (47 :: x.typed) - W (47 :: x.meant) = _
    rw [W_cons, W_cons]; simp; omega
  | x :: y :: S, h => by
    have h1 := (h x (by simp)).w.1
    have h2 := w_jn (y :: S) fun z hz => h z (by simp [hz])
    show W ((47 :: x.typed) ++ (47 :: jn ((y :: S).map It.typed))) - W ((47 :: x.meant) ++ (47 :: jn ((y :: S).map It.meant))) = _
    rw [W_app, W_app, W_cons 47 x.typed, W_cons 47 x.meant, List.map_cons (l := y :: S) (f := It.cost), List.sum_cons]
    omega
theorem mem_jn : ∀ (L : List (List Nat)) (x : Nat), x ∈ jn L → x = 47 ∨ ∃ l ∈ L, x ∈ l
  | [], x, h => by cases h
  | [p], x, h => .inr ⟨p, by simp, h⟩
  | p :: q :: L, x, h => by
    have h' : x ∈ p ++ 47 :: jn (q :: L) := h
    rcases List.mem_append.mp h' with h | h
    · exact .inr ⟨p, by simp, h⟩
    · rcases List.mem_cons.mp h with h | h
      · exact .inl h
      · rcases mem_jn (q :: L) x h with h | ⟨l, hl, hx⟩
        · exact .inl h
        · exact .inr ⟨l, List.mem_cons_of_mem _ hl, hx⟩
theorem cs_jn (L : List (List Nat)) (h : ∀ t ∈ L, 47 ∉ t ∧ t ≠ [] ∧ t ≠ [46]) : cs (47 :: jn L) = L := by
  by_cases hL : L = []
  · subst hL; decide
  · unfold cs
    rw [show 47 :: jn L = [] ++ 47 :: jn L from rfl, sp_app, sp_jn L hL fun t ht => (h t ht).1]
    show ([] :: L).filter good = L
    rw [List.filter_cons_of_neg (by simp [good])]
    refine List.filter_eq_self.mpr fun t ht => ?_
    have := h t ht
    simp [good, this.2.1, this.2.2]
theorem lcp_items : ∀ (S : List It), (∀ x ∈ S, x.ok) → lcp (S.map It.meant) (S.map It.typed) = (S.map It.meant).take ((S.map fun x => decide (x.cost = 0)).idxOf false)
  | [], _ => rfl
  | x :: S, h => by
    have hx := (h x (by simp)).look.2.2.2.2.2.2
    have ih := lcp_items S fun z hz => h z (by simp [hz])
    show (if x.meant = x.typed then x.meant :: lcp (S.map It.meant) (S.map It.typed) else []) = (x.meant :: S.map It.meant).take ((decide (x.cost = 0) :: S.map fun x => decide (x.cost = 0)).idxOf false)
    by_cases hc : x.cost = 0
    · rw [if_pos (hx.mpr hc).symm, ih, decide_eq_true hc, show ∀ l : List Bool, (true :: l).idxOf false = l.idxOf false + 1 from fun l => by rw [List.idxOf_cons]; rfl]; rfl
    · rw [if_neg fun q => hc (hx.mp q.symm), decide_eq_false hc, List.idxOf_cons_self]; rfl
theorem stack_ok : ∀ (ns : List Nat) (S : List It), (∀ x ∈ S, x.ok) → ∀ x ∈ ns.foldl step2 S, x.ok
  | [], _, h => h
  | n :: ns, S, h => stack_ok ns (step2 S n) fun x hx => by
    rcases step2_mem hx with hx | ⟨rfl, _⟩
    · exact h x hx
    · exact itOf_ok _
theorem stack_len : ∀ (ns : List Nat) (S : List It), (ns.foldl step2 S).length ≤ S.length + ns.length
  | [], S => by simp
  | n :: ns, S => by
    have h1 := stack_len ns (step2 S n)
    have h2 := step2_len S n
    rw [List.foldl_cons, List.length_cons]; omega
theorem fin_ok (cells : List Int) : FinOk (stackF (nums2 cells)) := by
  have ho : ∀ x ∈ stackF (nums2 cells), x.ok := stack_ok _ _ (fun x hx => (by cases hx))
  have hl : (stackF (nums2 cells)).length ≤ 7 := by
    have h1 := stack_len (nums2 cells) []
    have h2 := nums2_len cells
    rw [List.length_nil] at h1
    exact Nat.le_trans h1 (by omega)
  have hoff : false ∈ (stackF (nums2 cells)).map fun x => decide (x.cost = 0) := by
    have e : ∃ S0 : List It, stackF (nums2 cells) = S0 ++ [itOf 9, itOf 8] := by
      refine ⟨stackF ((cells.take 3).map (fun c => (c.fmod 1000000).toNat)), ?_⟩
      unfold stackF nums2
      rw [List.foldl_append]
      generalize ((cells.take 3).map (fun c => (c.fmod 1000000).toNat)).foldl step2 [] = S0
      show step2 (step2 (step2 (step2 S0 72) 128) 5) 64 = _
      have e1 : step2 S0 72 = S0 ++ [itOf 9] := rfl
      have e2 : ∀ S, step2 S 128 = S ++ [itOf 16] := fun S => rfl
      have e3 : ∀ S, step2 S 5 = S.take (S.length - 1) := fun S => rfl
      have e4 : ∀ S, step2 S 64 = S ++ [itOf 8] := fun S => rfl
      rw [e1, e2, e3, e4, show ((S0 ++ [itOf 9]) ++ [itOf 16]).take (((S0 ++ [itOf 9]) ++ [itOf 16]).length - 1) = S0 ++ [itOf 9] from by rw [List.length_append, List.length_singleton, Nat.add_sub_cancel]; exact List.take_left, List.append_assoc]
      rfl
    obtain ⟨S0, e⟩ := e
    rw [e, List.map_append]
    exact List.mem_append_right _ (List.mem_cons.mpr (.inl (by decide)))
  generalize stackF (nums2 cells) = S at *
  have hwM := wt_small (S.map It.meant) (fun t ht => by obtain ⟨x, hx, rfl⟩ := List.mem_map.mp ht; exact (meant_facts x (ho x hx)).2.2.2.2)
  have hwY := wt_small (S.map It.typed) (fun t ht => by obtain ⟨x, hx, rfl⟩ := List.mem_map.mp ht; exact (typed_facts x (ho x hx)).2.2.2.2)
  have hLM := jn_len (S.map It.meant)
  have hLY := jn_len (S.map It.typed)
  rw [List.length_map] at hwM hwY
  refine ⟨hoff, hl, ?_, ?_⟩
  · refine lev_eq (fun x hx => ?_) (fun x hx => ?_) (by rw [List.length_cons]; omega) (by rw [List.length_cons]; omega) ⟨w_jn S ho, _, Int.le_refl _, al_jn S ho⟩
    · rcases List.mem_cons.mp hx with e | hx
      · rw [e]; decide
      · rcases mem_jn _ _ hx with e | ⟨t, ht, hx⟩
        · rw [e]; decide
        · obtain ⟨y, hy, rfl⟩ := List.mem_map.mp ht
          exact (ho y hy).w.2.2 x hx
    · rcases List.mem_cons.mp hx with e | hx
      · rw [e]; decide
      · rcases mem_jn _ _ hx with e | ⟨t, ht, hx⟩
        · rw [e]; decide
        · obtain ⟨y, hy, rfl⟩ := List.mem_map.mp ht
          exact (ho y hy).w.2.1 x hx
  · unfold commonF
    rw [cs_jn _ fun t ht => by obtain ⟨x, hx, rfl⟩ := List.mem_map.mp ht; exact ⟨(meant_facts x (ho x hx)).1, (meant_facts x (ho x hx)).2.1, (meant_facts x (ho x hx)).2.2.1⟩,
      cs_jn _ fun t ht => by obtain ⟨x, hx, rfl⟩ := List.mem_map.mp ht; exact ⟨(typed_facts x (ho x hx)).1, (typed_facts x (ho x hx)).2.1, (typed_facts x (ho x hx)).2.2.1⟩,
      lcp_items S ho]
end Mine

end T_Q5

section T_TOP2
open PySem PySem.W PyProof.Rows PySem.Calls PySem.Spec
set_option maxRecDepth 100000
namespace Mine

theorem vals_of_ints {h : Heap} {ex : Addr → Prop} : ∀ {vs : List Value} {ns : List Int}, IntsAre vs ns → Vals h ex vs (ns.map .int)
  | _, _, .nil => .nil
  | _, _, .cons n t r => .cons (.int n t) (vals_of_ints r)

theorem top2 : PySem.Challenge.rw_pd0081_02.Holds := by
  refine hd ?_
  intro w s₀ s₁ mg mb G Y a o pm cd doc dV kV ho hdd hcd hD hmg hg args vals as hpre hlay hrd hwl hlo
  have KX := kIn_of Y
  have T := G.T
  have hB : Base (KK w) s₁.heap := ⟨KX, ⟨mg, T.g⟩, ⟨mb, T.b, T.builtins⟩, T.nolimit⟩
  have hmg' : mg "law" = some (.ref 179) := mg_of KX T.g (by kernel_rfl)
  have ea : a = 179 := by
    have e := hmg.symm.trans hmg'
    injection e with e; injection e
  subst ea
  clear G Y T ho hdd hcd hD hmg
  wrow_args hpre hlay hrd hwl hlo
  rename IntsAre _ _ => hI
  rename Heap.IsList _ _ _ => hL
  rename ¬ ((63 : Nat) : Int) < _ => hlen
  refine law_ok w _ (by omega) (fin_ok _) callerA ⟨rfl, by decide +kernel, by decide +kernel⟩ s₁ _ _ _ hB (.cons (.list id hL (vals_of_ints hI)) .nil) ?_
  rintro v s' ⟨⟨h', tk, rfl⟩, hx⟩ (hv : Val h' (Old s₁.heap) v (.bool true))
  cases hv
  exact GoodW.toG ⟨.inl ⟨_, .bool true, [], rfl, fun _ => rfl, .bool true, postW_of (by wrow_shape) (by wtm_val) (by w_fin), unshared_nil⟩, hx, rfl, hg⟩
end Mine

end T_TOP2

theorem PySem.Challenge.cw_pd0081_02_holds : PySem.Challenge.rw_pd0081_02.Holds := by
  exact Mine.top2
