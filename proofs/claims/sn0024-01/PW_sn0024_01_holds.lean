import PyProof.Rows.All
import Wide.All
import OpenK.AllK
import Wide.FinOn
import PySem.Challenge.RW_sn0024_01
set_option Elab.async false
section Lines
open PySem PySem.W PyProof.Rows PySem.Calls PySem.Spec
local macro_rules | `(tactic| walk_at "K") => `(tactic| first | exact List.forall_mem_nil _ | (refine' List.forall_mem_cons.mpr ⟨?ka, ?kb⟩; (case ka => first | exact rfl | with_unfolding_all exact rfl | (with_unfolding_all refine congrArg some ?_; exact congrArg (fun z => Value.int z _) (by omega))); (case kb => walk_at "K")))
local macro_rules | `(tactic| walk_at "M") => `(tactic| first | with_reducible exact List.Mem.head _ | exact List.Mem.head _ | (refine List.Mem.tail _ ?_; walk_at "M"))
local macro_rules | `(tactic| walk_at "T") => `(tactic| first | assumption | (refine List.Mem.tail _ ?_; walk_at "T"))
local macro_rules | `(tactic| walk_at "S") => `(tactic| first | with_reducible exact List.forall_mem_nil _ | (refine List.forall_mem_cons.mpr ⟨?ka, ?kb⟩; (case ka => walk_at "M"); (case kb => walk_at "S")) | (intro p hp; walk_at "T"))
section
open PySem PySem.W PyProof.Rows
namespace Mine
noncomputable def stK (i : Nat) : Stmt := PySem.Challenge.rw_sn0024_01.row.prog.main.body.getD i (.Pass default)
noncomputable def clK (i j : Nat) : Stmt := match stK i with
  | .ClassDef _ _ _ body .. => body.getD j (.Pass default)
  | _ => .Pass default
noncomputable def fnK (st : Stmt) (name qual : Str) (cl : List (Str × Addr)) (d m c ct : Value) : FuncData := match st with
  | .FunctionDef _ args body _ _ _ sc .. => { name := name, qualname := qual, params := args, body := .stmts body, scope := sc, globals := 3, closure := cl, defaults := d, kwdefaults := .none, pyModule := m, code := c, closureTuple := ct }
  | _ => default
/-- what the top leaves: the objects that the law's functions reach -/
noncomputable def hd.heap_39 (P : Params) : Frag :=
(nat_lit 2, { cls := PySem.Value.none, data := PySem.Data.dict #[] }) ::
(nat_lit 3,
  { cls := PySem.Value.type "dict",
    data :=
      PySem.Data.dict
        #[{ hash := PySem.PyData.keyHash P (PySem.Str.ofString "__name__"),
            key := PySem.Value.str (PySem.Str.ofString "__name__") 165,
            val := PySem.Value.str (PySem.Str.ofString "law_sn0024_01") 345 },
          { hash := PySem.PyData.keyHash P (PySem.Str.ofString "__doc__"),
            key := PySem.Value.str (PySem.Str.ofString "__doc__") 166, val := PySem.Value.none },
          { hash := PySem.PyData.keyHash P (PySem.Str.ofString "__package__"),
            key := PySem.Value.str (PySem.Str.ofString "__package__") 167, val := PySem.Value.none },
          { hash := PySem.PyData.keyHash P (PySem.Str.ofString "__loader__"),
            key := PySem.Value.str (PySem.Str.ofString "__loader__") 168,
            val := PySem.Value.builtin "__main__.__loader__#opaque" },
          { hash := PySem.PyData.keyHash P (PySem.Str.ofString "__spec__"),
            key := PySem.Value.str (PySem.Str.ofString "__spec__") 169, val := PySem.Value.none },
          { hash := PySem.PyData.keyHash P (PySem.Str.ofString "__annotations__"),
            key := PySem.Value.str (PySem.Str.ofString "__annotations__") 170, val := PySem.Value.ref 6 },
          { hash := PySem.PyData.keyHash P (PySem.Str.ofString "__builtins__"),
            key := PySem.Value.str (PySem.Str.ofString "__builtins__") 171, val := PySem.Value.ref 4 },
          { hash := PySem.PyData.keyHash P (PySem.Str.ofString "__file__"),
            key := PySem.Value.str (PySem.Str.ofString "__file__") 173,
            val := PySem.Value.str (PySem.Str.ofString "/claim/cut.py") 172 },
          { hash := PySem.PyData.keyHash P (PySem.Str.ofString "__cached__"),
            key := PySem.Value.str (PySem.Str.ofString "__cached__") 174, val := PySem.Value.none },
          { hash := PySem.PyData.keyHash P (PySem.Str.ofString "_wall"),
            key := PySem.Value.str (PySem.Str.ofString "_wall") 193, val := PySem.Value.ref 21 },
          { hash := PySem.PyData.keyHash P (PySem.Str.ofString "_MAX_STRING_SIZE"),
            key := PySem.Value.str (PySem.Str.ofString "_MAX_STRING_SIZE") 197, val := PySem.Value.int 40 196 },
          { hash := PySem.PyData.keyHash P (PySem.Str.ofString "_MOVE_COST"),
            key := PySem.Value.str (PySem.Str.ofString "_MOVE_COST") 199, val := PySem.Value.int 2 198 },
          { hash := PySem.PyData.keyHash P (PySem.Str.ofString "_CASE_COST"),
            key := PySem.Value.str (PySem.Str.ofString "_CASE_COST") 201, val := PySem.Value.int 1 200 },
          { hash := PySem.PyData.keyHash P (PySem.Str.ofString "_substitution_cost"),
            key := PySem.Value.str (PySem.Str.ofString "_substitution_cost") 209, val := PySem.Value.ref 28 },
          { hash := PySem.PyData.keyHash P (PySem.Str.ofString "_levenshtein_distance"),
            key := PySem.Value.str (PySem.Str.ofString "_levenshtein_distance") 229, val := PySem.Value.ref 35 },
          { hash := PySem.PyData.keyHash P (PySem.Str.ofString "ELLIPSIS_MARKER"),
            key := PySem.Value.str (PySem.Str.ofString "ELLIPSIS_MARKER") 233,
            val := PySem.Value.str (PySem.Str.ofString "...") 232 },
          { hash := PySem.PyData.keyHash P (PySem.Str.ofString "_ellipsis_match"),
            key := PySem.Value.str (PySem.Str.ofString "_ellipsis_match") 245, val := PySem.Value.ref 42 },
          { hash := PySem.PyData.keyHash P (PySem.Str.ofString "EMPTYSTRING"),
            key := PySem.Value.str (PySem.Str.ofString "EMPTYSTRING") 249,
            val := PySem.Value.str (PySem.Str.ofString "") 248 },
          { hash := PySem.PyData.keyHash P (PySem.Str.ofString "_Accumulator"),
            key := PySem.Value.str (PySem.Str.ofString "_Accumulator") 344, val := PySem.Value.ref 122 },
          { hash := PySem.PyData.keyHash P (PySem.Str.ofString "_law_least"),
            key := PySem.Value.str (PySem.Str.ofString "_law_least") 352, val := PySem.Value.ref 131 },
          { hash := PySem.PyData.keyHash P (PySem.Str.ofString "_law_apart"),
            key := PySem.Value.str (PySem.Str.ofString "_law_apart") 358, val := PySem.Value.ref 136 },
          { hash := PySem.PyData.keyHash P (PySem.Str.ofString "law"),
            key := PySem.Value.str (PySem.Str.ofString "law") 364, val := PySem.Value.ref 141 }]
        22 }) ::
(nat_lit 15, { cls := PySem.Value.type "tuple", data := PySem.Data.seq #[] }) ::
(nat_lit 17, { cls := PySem.Value.type "tuple", data := PySem.Data.seq #[PySem.Value.str (PySem.Str.ofString "k") 190] }) ::
(nat_lit 18, { cls := PySem.Value.type "tuple", data := PySem.Data.seq #[] }) ::
(nat_lit 20,
  { cls := PySem.Value.type "code",
    data :=
      PySem.Data.fields
        #[PySem.Value.str (PySem.Str.ofString "_wall") 187, PySem.Value.str (PySem.Str.ofString "_wall") 188,
          PySem.Value.str (PySem.Str.ofString "/claim/cut.py") 189, PySem.Value.int 1 0, PySem.Value.int 1 0,
          PySem.Value.int 0 0, PySem.Value.int 0 0, PySem.Value.int 3 0, PySem.Value.ref 15, PySem.Value.bool Bool.true,
          PySem.Value.int 181 0, PySem.Value.ref 16, PySem.Value.none, PySem.Value.ref 17, PySem.Value.ref 18,
          PySem.Value.ref 19, PySem.Value.int 191 0, PySem.Value.int 1 0,
          PySem.Value.str (PySem.Str.ofString "/claim/cut.py") 192] }) ::
(nat_lit 21, { cls := .type "function", data := .func (fnK (stK 0) (PySem.Str.ofString "_wall") (PySem.Str.ofString "_wall") ([]) (PySem.Value.none) (PySem.Value.str (PySem.Str.ofString "__main__") 164) (PySem.Value.ref 20) (.none)) }) ::
(nat_lit 22, { cls := PySem.Value.type "tuple", data := PySem.Data.seq #[] }) ::
(nat_lit 24,
  { cls := PySem.Value.type "tuple",
    data :=
      PySem.Data.seq
        #[PySem.Value.str (PySem.Str.ofString "ch_a") 205, PySem.Value.str (PySem.Str.ofString "ch_b") 206] }) ::
(nat_lit 25, { cls := PySem.Value.type "tuple", data := PySem.Data.seq #[] }) ::
(nat_lit 27,
  { cls := PySem.Value.type "code",
    data :=
      PySem.Data.fields
        #[PySem.Value.str (PySem.Str.ofString "_substitution_cost") 202,
          PySem.Value.str (PySem.Str.ofString "_substitution_cost") 203,
          PySem.Value.str (PySem.Str.ofString "/claim/cut.py") 204, PySem.Value.int 8 0, PySem.Value.int 2 0,
          PySem.Value.int 0 0, PySem.Value.int 0 0, PySem.Value.int 3 0, PySem.Value.ref 22, PySem.Value.bool Bool.true,
          PySem.Value.int 181 0, PySem.Value.ref 23, PySem.Value.none, PySem.Value.ref 24, PySem.Value.ref 25,
          PySem.Value.ref 26, PySem.Value.int 207 0, PySem.Value.int 8 0,
          PySem.Value.str (PySem.Str.ofString "/claim/cut.py") 208] }) ::
(nat_lit 28, { cls := .type "function", data := .func (fnK (stK 5) (PySem.Str.ofString "_substitution_cost") (PySem.Str.ofString "_substitution_cost") ([]) (PySem.Value.none) (PySem.Value.str (PySem.Str.ofString "cpy313.traceback") 194) (PySem.Value.ref 27) (.none)) }) ::
(nat_lit 29, { cls := PySem.Value.type "tuple", data := PySem.Data.seq #[] }) ::
(nat_lit 31,
  { cls := PySem.Value.type "tuple",
    data :=
      PySem.Data.seq
        #[PySem.Value.str (PySem.Str.ofString "a") 213, PySem.Value.str (PySem.Str.ofString "b") 214,
          PySem.Value.str (PySem.Str.ofString "max_cost") 215, PySem.Value.str (PySem.Str.ofString "pre") 216,
          PySem.Value.str (PySem.Str.ofString "post") 217, PySem.Value.str (PySem.Str.ofString "row") 218,
          PySem.Value.str (PySem.Str.ofString "result") 219, PySem.Value.str (PySem.Str.ofString "bindex") 220,
          PySem.Value.str (PySem.Str.ofString "bchar") 221, PySem.Value.str (PySem.Str.ofString "distance") 222,
          PySem.Value.str (PySem.Str.ofString "minimum") 223, PySem.Value.str (PySem.Str.ofString "index") 224,
          PySem.Value.str (PySem.Str.ofString "substitute") 225,
          PySem.Value.str (PySem.Str.ofString "insert_delete") 226] }) ::
(nat_lit 32, { cls := PySem.Value.type "tuple", data := PySem.Data.seq #[] }) ::
(nat_lit 34,
  { cls := PySem.Value.type "code",
    data :=
      PySem.Data.fields
        #[PySem.Value.str (PySem.Str.ofString "_levenshtein_distance") 210,
          PySem.Value.str (PySem.Str.ofString "_levenshtein_distance") 211,
          PySem.Value.str (PySem.Str.ofString "/claim/cut.py") 212, PySem.Value.int 14 0, PySem.Value.int 3 0,
          PySem.Value.int 0 0, PySem.Value.int 0 0, PySem.Value.int 3 0, PySem.Value.ref 29, PySem.Value.bool Bool.true,
          PySem.Value.int 181 0, PySem.Value.ref 30, PySem.Value.none, PySem.Value.ref 31, PySem.Value.ref 32,
          PySem.Value.ref 33, PySem.Value.int 227 0, PySem.Value.int 14 0,
          PySem.Value.str (PySem.Str.ofString "/claim/cut.py") 228] }) ::
(nat_lit 35, { cls := .type "function", data := .func (fnK (stK 6) (PySem.Str.ofString "_levenshtein_distance") (PySem.Str.ofString "_levenshtein_distance") ([]) (PySem.Value.none) (PySem.Value.str (PySem.Str.ofString "cpy313.traceback") 194) (PySem.Value.ref 34) (.none)) }) ::
(nat_lit 36, { cls := PySem.Value.type "tuple", data := PySem.Data.seq #[] }) ::
(nat_lit 38,
  { cls := PySem.Value.type "tuple",
    data :=
      PySem.Data.seq
        #[PySem.Value.str (PySem.Str.ofString "want") 237, PySem.Value.str (PySem.Str.ofString "got") 238,
          PySem.Value.str (PySem.Str.ofString "ws") 239, PySem.Value.str (PySem.Str.ofString "startpos") 240,
          PySem.Value.str (PySem.Str.ofString "endpos") 241, PySem.Value.str (PySem.Str.ofString "w") 242] }) ::
(nat_lit 39, { cls := PySem.Value.type "tuple", data := PySem.Data.seq #[] }) ::
(nat_lit 41,
  { cls := PySem.Value.type "code",
    data :=
      PySem.Data.fields
        #[PySem.Value.str (PySem.Str.ofString "_ellipsis_match") 234,
          PySem.Value.str (PySem.Str.ofString "_ellipsis_match") 235,
          PySem.Value.str (PySem.Str.ofString "/claim/cut.py") 236, PySem.Value.int 54 0, PySem.Value.int 2 0,
          PySem.Value.int 0 0, PySem.Value.int 0 0, PySem.Value.int 3 0, PySem.Value.ref 36, PySem.Value.bool Bool.true,
          PySem.Value.int 181 0, PySem.Value.ref 37, PySem.Value.none, PySem.Value.ref 38, PySem.Value.ref 39,
          PySem.Value.ref 40, PySem.Value.int 243 0, PySem.Value.int 54 0,
          PySem.Value.str (PySem.Str.ofString "/claim/cut.py") 244] }) ::
(nat_lit 42, { cls := .type "function", data := .func (fnK (stK 9) (PySem.Str.ofString "_ellipsis_match") (PySem.Str.ofString "_ellipsis_match") ([]) (PySem.Value.none) (PySem.Value.str (PySem.Str.ofString "cpy313.doctest") 230) (PySem.Value.ref 41) (.none)) }) ::
(nat_lit 43, { cls := PySem.Value.type "tuple", data := PySem.Data.seq #[PySem.Value.type "list"] }) ::
(nat_lit 46, { cls := PySem.Value.type "cell", data := PySem.Data.cell (Option.some (PySem.Value.ref 122)) }) ::
(nat_lit 51, { cls := PySem.Value.type "tuple", data := PySem.Data.seq #[PySem.Value.int 0 262] }) ::
(nat_lit 52, { cls := PySem.Value.type "tuple", data := PySem.Data.seq #[PySem.Value.ref 46] }) ::
(nat_lit 53,
  { cls := PySem.Value.type "tuple", data := PySem.Data.seq #[PySem.Value.str (PySem.Str.ofString "__class__") 266] }) ::
(nat_lit 55,
  { cls := PySem.Value.type "tuple",
    data :=
      PySem.Data.seq
        #[PySem.Value.str (PySem.Str.ofString "self") 267, PySem.Value.str (PySem.Str.ofString "initial_size") 268] }) ::
(nat_lit 56, { cls := PySem.Value.type "tuple", data := PySem.Data.seq #[] }) ::
(nat_lit 58,
  { cls := PySem.Value.type "code",
    data :=
      PySem.Data.fields
        #[PySem.Value.str (PySem.Str.ofString "__init__") 263,
          PySem.Value.str (PySem.Str.ofString "_Accumulator.__init__") 264,
          PySem.Value.str (PySem.Str.ofString "/claim/cut.py") 265, PySem.Value.int 86 0, PySem.Value.int 2 0,
          PySem.Value.int 0 0, PySem.Value.int 0 0, PySem.Value.int 3 0, PySem.Value.ref 53, PySem.Value.bool Bool.true,
          PySem.Value.int 181 0, PySem.Value.ref 54, PySem.Value.none, PySem.Value.ref 55, PySem.Value.ref 56,
          PySem.Value.ref 57, PySem.Value.int 269 0, PySem.Value.int 86 0,
          PySem.Value.str (PySem.Str.ofString "/claim/cut.py") 270] }) ::
(nat_lit 59, { cls := .type "function", data := .func (fnK (clK 12 0) (PySem.Str.ofString "__init__") (PySem.Str.ofString "_Accumulator.__init__") ([(PySem.Str.ofString "__class__", 46)]) (PySem.Value.ref 51) (PySem.Value.str (PySem.Str.ofString "cpy313.email.header") 246) (PySem.Value.ref 58) (PySem.Value.ref 52)) }) ::
(nat_lit 60, { cls := PySem.Value.type "tuple", data := PySem.Data.seq #[] }) ::
(nat_lit 62,
  { cls := PySem.Value.type "tuple",
    data :=
      PySem.Data.seq
        #[PySem.Value.str (PySem.Str.ofString "self") 275, PySem.Value.str (PySem.Str.ofString "fws") 276,
          PySem.Value.str (PySem.Str.ofString "string") 277] }) ::
(nat_lit 63, { cls := PySem.Value.type "tuple", data := PySem.Data.seq #[] }) ::
(nat_lit 65,
  { cls := PySem.Value.type "code",
    data :=
      PySem.Data.fields
        #[PySem.Value.str (PySem.Str.ofString "push") 272, PySem.Value.str (PySem.Str.ofString "_Accumulator.push") 273,
          PySem.Value.str (PySem.Str.ofString "/claim/cut.py") 274, PySem.Value.int 90 0, PySem.Value.int 3 0,
          PySem.Value.int 0 0, PySem.Value.int 0 0, PySem.Value.int 3 0, PySem.Value.ref 60, PySem.Value.bool Bool.true,
          PySem.Value.int 181 0, PySem.Value.ref 61, PySem.Value.none, PySem.Value.ref 62, PySem.Value.ref 63,
          PySem.Value.ref 64, PySem.Value.int 278 0, PySem.Value.int 90 0,
          PySem.Value.str (PySem.Str.ofString "/claim/cut.py") 279] }) ::
(nat_lit 66, { cls := .type "function", data := .func (fnK (clK 12 1) (PySem.Str.ofString "push") (PySem.Str.ofString "_Accumulator.push") ([]) (PySem.Value.none) (PySem.Value.str (PySem.Str.ofString "cpy313.email.header") 246) (PySem.Value.ref 65) (.none)) }) ::
(nat_lit 67, { cls := PySem.Value.type "tuple", data := PySem.Data.seq #[PySem.Value.int 0 281] }) ::
(nat_lit 68, { cls := PySem.Value.type "tuple", data := PySem.Data.seq #[] }) ::
(nat_lit 70,
  { cls := PySem.Value.type "tuple",
    data :=
      PySem.Data.seq #[PySem.Value.str (PySem.Str.ofString "self") 285, PySem.Value.str (PySem.Str.ofString "i") 286] }) ::
(nat_lit 71, { cls := PySem.Value.type "tuple", data := PySem.Data.seq #[] }) ::
(nat_lit 73,
  { cls := PySem.Value.type "code",
    data :=
      PySem.Data.fields
        #[PySem.Value.str (PySem.Str.ofString "pop_from") 282,
          PySem.Value.str (PySem.Str.ofString "_Accumulator.pop_from") 283,
          PySem.Value.str (PySem.Str.ofString "/claim/cut.py") 284, PySem.Value.int 93 0, PySem.Value.int 2 0,
          PySem.Value.int 0 0, PySem.Value.int 0 0, PySem.Value.int 3 0, PySem.Value.ref 68, PySem.Value.bool Bool.true,
          PySem.Value.int 181 0, PySem.Value.ref 69, PySem.Value.none, PySem.Value.ref 70, PySem.Value.ref 71,
          PySem.Value.ref 72, PySem.Value.int 287 0, PySem.Value.int 93 0,
          PySem.Value.str (PySem.Str.ofString "/claim/cut.py") 288] }) ::
(nat_lit 74, { cls := .type "function", data := .func (fnK (clK 12 2) (PySem.Str.ofString "pop_from") (PySem.Str.ofString "_Accumulator.pop_from") ([]) (PySem.Value.ref 67) (PySem.Value.str (PySem.Str.ofString "cpy313.email.header") 246) (PySem.Value.ref 73) (.none)) }) ::
(nat_lit 75, { cls := PySem.Value.type "tuple", data := PySem.Data.seq #[PySem.Value.ref 46] }) ::
(nat_lit 76,
  { cls := PySem.Value.type "tuple", data := PySem.Data.seq #[PySem.Value.str (PySem.Str.ofString "__class__") 293] }) ::
(nat_lit 78, { cls := PySem.Value.type "tuple", data := PySem.Data.seq #[PySem.Value.str (PySem.Str.ofString "self") 294] }) ::
(nat_lit 79, { cls := PySem.Value.type "tuple", data := PySem.Data.seq #[] }) ::
(nat_lit 81,
  { cls := PySem.Value.type "code",
    data :=
      PySem.Data.fields
        #[PySem.Value.str (PySem.Str.ofString "pop") 290, PySem.Value.str (PySem.Str.ofString "_Accumulator.pop") 291,
          PySem.Value.str (PySem.Str.ofString "/claim/cut.py") 292, PySem.Value.int 96 0, PySem.Value.int 1 0,
          PySem.Value.int 0 0, PySem.Value.int 0 0, PySem.Value.int 3 0, PySem.Value.ref 76, PySem.Value.bool Bool.true,
          PySem.Value.int 181 0, PySem.Value.ref 77, PySem.Value.none, PySem.Value.ref 78, PySem.Value.ref 79,
          PySem.Value.ref 80, PySem.Value.int 295 0, PySem.Value.int 96 0,
          PySem.Value.str (PySem.Str.ofString "/claim/cut.py") 296] }) ::
(nat_lit 82, { cls := .type "function", data := .func (fnK (clK 12 3) (PySem.Str.ofString "pop") (PySem.Str.ofString "_Accumulator.pop") ([(PySem.Str.ofString "__class__", 46)]) (PySem.Value.none) (PySem.Value.str (PySem.Str.ofString "cpy313.email.header") 246) (PySem.Value.ref 81) (PySem.Value.ref 75)) }) ::
(nat_lit 83, { cls := PySem.Value.type "tuple", data := PySem.Data.seq #[] }) ::
(nat_lit 85, { cls := PySem.Value.type "tuple", data := PySem.Data.seq #[PySem.Value.str (PySem.Str.ofString "self") 301] }) ::
(nat_lit 86, { cls := PySem.Value.type "tuple", data := PySem.Data.seq #[] }) ::
(nat_lit 88,
  { cls := PySem.Value.type "code",
    data :=
      PySem.Data.fields
        #[PySem.Value.str (PySem.Str.ofString "__len__") 298,
          PySem.Value.str (PySem.Str.ofString "_Accumulator.__len__") 299,
          PySem.Value.str (PySem.Str.ofString "/claim/cut.py") 300, PySem.Value.int 101 0, PySem.Value.int 1 0,
          PySem.Value.int 0 0, PySem.Value.int 0 0, PySem.Value.int 3 0, PySem.Value.ref 83, PySem.Value.bool Bool.true,
          PySem.Value.int 181 0, PySem.Value.ref 84, PySem.Value.none, PySem.Value.ref 85, PySem.Value.ref 86,
          PySem.Value.ref 87, PySem.Value.int 302 0, PySem.Value.int 101 0,
          PySem.Value.str (PySem.Str.ofString "/claim/cut.py") 303] }) ::
(nat_lit 89, { cls := .type "function", data := .func (fnK (clK 12 4) (PySem.Str.ofString "__len__") (PySem.Str.ofString "_Accumulator.__len__") ([]) (PySem.Value.none) (PySem.Value.str (PySem.Str.ofString "cpy313.email.header") 246) (PySem.Value.ref 88) (.none)) }) ::
(nat_lit 90, { cls := PySem.Value.type "tuple", data := PySem.Data.seq #[] }) ::
(nat_lit 92, { cls := PySem.Value.type "tuple", data := PySem.Data.seq #[PySem.Value.str (PySem.Str.ofString "self") 308] }) ::
(nat_lit 93, { cls := PySem.Value.type "tuple", data := PySem.Data.seq #[] }) ::
(nat_lit 95,
  { cls := PySem.Value.type "code",
    data :=
      PySem.Data.fields
        #[PySem.Value.str (PySem.Str.ofString "__str__") 305,
          PySem.Value.str (PySem.Str.ofString "_Accumulator.__str__") 306,
          PySem.Value.str (PySem.Str.ofString "/claim/cut.py") 307, PySem.Value.int 104 0, PySem.Value.int 1 0,
          PySem.Value.int 0 0, PySem.Value.int 0 0, PySem.Value.int 3 0, PySem.Value.ref 90, PySem.Value.bool Bool.true,
          PySem.Value.int 181 0, PySem.Value.ref 91, PySem.Value.none, PySem.Value.ref 92, PySem.Value.ref 93,
          PySem.Value.ref 94, PySem.Value.int 309 0, PySem.Value.int 104 0,
          PySem.Value.str (PySem.Str.ofString "/claim/cut.py") 310] }) ::
(nat_lit 96, { cls := .type "function", data := .func (fnK (clK 12 5) (PySem.Str.ofString "__str__") (PySem.Str.ofString "_Accumulator.__str__") ([]) (PySem.Value.none) (PySem.Value.str (PySem.Str.ofString "cpy313.email.header") 246) (PySem.Value.ref 95) (.none)) }) ::
(nat_lit 97, { cls := PySem.Value.type "tuple", data := PySem.Data.seq #[PySem.Value.none] }) ::
(nat_lit 98, { cls := PySem.Value.type "tuple", data := PySem.Data.seq #[] }) ::
(nat_lit 100,
  { cls := PySem.Value.type "tuple",
    data :=
      PySem.Data.seq
        #[PySem.Value.str (PySem.Str.ofString "self") 315, PySem.Value.str (PySem.Str.ofString "startval") 316] }) ::
(nat_lit 101, { cls := PySem.Value.type "tuple", data := PySem.Data.seq #[] }) ::
(nat_lit 103,
  { cls := PySem.Value.type "code",
    data :=
      PySem.Data.fields
        #[PySem.Value.str (PySem.Str.ofString "reset") 312,
          PySem.Value.str (PySem.Str.ofString "_Accumulator.reset") 313,
          PySem.Value.str (PySem.Str.ofString "/claim/cut.py") 314, PySem.Value.int 107 0, PySem.Value.int 2 0,
          PySem.Value.int 0 0, PySem.Value.int 0 0, PySem.Value.int 3 0, PySem.Value.ref 98, PySem.Value.bool Bool.true,
          PySem.Value.int 181 0, PySem.Value.ref 99, PySem.Value.none, PySem.Value.ref 100, PySem.Value.ref 101,
          PySem.Value.ref 102, PySem.Value.int 317 0, PySem.Value.int 107 0,
          PySem.Value.str (PySem.Str.ofString "/claim/cut.py") 318] }) ::
(nat_lit 104, { cls := .type "function", data := .func (fnK (clK 12 6) (PySem.Str.ofString "reset") (PySem.Str.ofString "_Accumulator.reset") ([]) (PySem.Value.ref 97) (PySem.Value.str (PySem.Str.ofString "cpy313.email.header") 246) (PySem.Value.ref 103) (.none)) }) ::
(nat_lit 105, { cls := PySem.Value.type "tuple", data := PySem.Data.seq #[] }) ::
(nat_lit 107, { cls := PySem.Value.type "tuple", data := PySem.Data.seq #[PySem.Value.str (PySem.Str.ofString "self") 323] }) ::
(nat_lit 108, { cls := PySem.Value.type "tuple", data := PySem.Data.seq #[] }) ::
(nat_lit 110,
  { cls := PySem.Value.type "code",
    data :=
      PySem.Data.fields
        #[PySem.Value.str (PySem.Str.ofString "is_onlyws") 320,
          PySem.Value.str (PySem.Str.ofString "_Accumulator.is_onlyws") 321,
          PySem.Value.str (PySem.Str.ofString "/claim/cut.py") 322, PySem.Value.int 110 0, PySem.Value.int 1 0,
          PySem.Value.int 0 0, PySem.Value.int 0 0, PySem.Value.int 3 0, PySem.Value.ref 105,
          PySem.Value.bool Bool.true, PySem.Value.int 181 0, PySem.Value.ref 106, PySem.Value.none, PySem.Value.ref 107,
          PySem.Value.ref 108, PySem.Value.ref 109, PySem.Value.int 324 0, PySem.Value.int 110 0,
          PySem.Value.str (PySem.Str.ofString "/claim/cut.py") 325] }) ::
(nat_lit 111, { cls := .type "function", data := .func (fnK (clK 12 7) (PySem.Str.ofString "is_onlyws") (PySem.Str.ofString "_Accumulator.is_onlyws") ([]) (PySem.Value.none) (PySem.Value.str (PySem.Str.ofString "cpy313.email.header") 246) (PySem.Value.ref 110) (.none)) }) ::
(nat_lit 112, { cls := PySem.Value.type "tuple", data := PySem.Data.seq #[PySem.Value.ref 46] }) ::
(nat_lit 113,
  { cls := PySem.Value.type "tuple", data := PySem.Data.seq #[PySem.Value.str (PySem.Str.ofString "__class__") 330] }) ::
(nat_lit 115, { cls := PySem.Value.type "tuple", data := PySem.Data.seq #[PySem.Value.str (PySem.Str.ofString "self") 331] }) ::
(nat_lit 116, { cls := PySem.Value.type "tuple", data := PySem.Data.seq #[] }) ::
(nat_lit 118,
  { cls := PySem.Value.type "code",
    data :=
      PySem.Data.fields
        #[PySem.Value.str (PySem.Str.ofString "part_count") 327,
          PySem.Value.str (PySem.Str.ofString "_Accumulator.part_count") 328,
          PySem.Value.str (PySem.Str.ofString "/claim/cut.py") 329, PySem.Value.int 113 0, PySem.Value.int 1 0,
          PySem.Value.int 0 0, PySem.Value.int 0 0, PySem.Value.int 3 0, PySem.Value.ref 113,
          PySem.Value.bool Bool.true, PySem.Value.int 181 0, PySem.Value.ref 114, PySem.Value.none, PySem.Value.ref 115,
          PySem.Value.ref 116, PySem.Value.ref 117, PySem.Value.int 332 0, PySem.Value.int 113 0,
          PySem.Value.str (PySem.Str.ofString "/claim/cut.py") 333] }) ::
(nat_lit 119, { cls := .type "function", data := .func (fnK (clK 12 8) (PySem.Str.ofString "part_count") (PySem.Str.ofString "_Accumulator.part_count") ([(PySem.Str.ofString "__class__", 46)]) (PySem.Value.none) (PySem.Value.str (PySem.Str.ofString "cpy313.email.header") 246) (PySem.Value.ref 118) (PySem.Value.ref 112)) }) ::
(nat_lit 120,
  { cls := PySem.Value.type "tuple",
    data := PySem.Data.seq #[PySem.Value.str (PySem.Str.ofString "_initial_size") 335] }) ::
(nat_lit 121,
  { cls := PySem.Value.type "dict",
    data :=
      PySem.Data.dict
        #[{ hash := PySem.PyData.keyHash P (PySem.Str.ofString "__module__"),
            key := PySem.Value.str (PySem.Str.ofString "__module__") 257,
            val := PySem.Value.str (PySem.Str.ofString "cpy313.email.header") 246 },
          { hash := PySem.PyData.keyHash P (PySem.Str.ofString "__firstlineno__"),
            key := PySem.Value.str (PySem.Str.ofString "__firstlineno__") 261, val := PySem.Value.int 84 260 },
          { hash := PySem.PyData.keyHash P (PySem.Str.ofString "__init__"),
            key := PySem.Value.str (PySem.Str.ofString "__init__") 271, val := PySem.Value.ref 59 },
          { hash := PySem.PyData.keyHash P (PySem.Str.ofString "push"),
            key := PySem.Value.str (PySem.Str.ofString "push") 280, val := PySem.Value.ref 66 },
          { hash := PySem.PyData.keyHash P (PySem.Str.ofString "pop_from"),
            key := PySem.Value.str (PySem.Str.ofString "pop_from") 289, val := PySem.Value.ref 74 },
          { hash := PySem.PyData.keyHash P (PySem.Str.ofString "pop"),
            key := PySem.Value.str (PySem.Str.ofString "pop") 297, val := PySem.Value.ref 82 },
          { hash := PySem.PyData.keyHash P (PySem.Str.ofString "__len__"),
            key := PySem.Value.str (PySem.Str.ofString "__len__") 304, val := PySem.Value.ref 89 },
          { hash := PySem.PyData.keyHash P (PySem.Str.ofString "__str__"),
            key := PySem.Value.str (PySem.Str.ofString "__str__") 311, val := PySem.Value.ref 96 },
          { hash := PySem.PyData.keyHash P (PySem.Str.ofString "reset"),
            key := PySem.Value.str (PySem.Str.ofString "reset") 319, val := PySem.Value.ref 104 },
          { hash := PySem.PyData.keyHash P (PySem.Str.ofString "is_onlyws"),
            key := PySem.Value.str (PySem.Str.ofString "is_onlyws") 326, val := PySem.Value.ref 111 },
          { hash := PySem.PyData.keyHash P (PySem.Str.ofString "part_count"),
            key := PySem.Value.str (PySem.Str.ofString "part_count") 334, val := PySem.Value.ref 119 },
          { hash := PySem.PyData.keyHash P (PySem.Str.ofString "__static_attributes__"),
            key := PySem.Value.str (PySem.Str.ofString "__static_attributes__") 336, val := PySem.Value.ref 120 },
          { hash := PySem.PyData.keyHash P (PySem.Str.ofString "__dict__"),
            key := PySem.Value.str (PySem.Str.ofString "__dict__") 339, val := PySem.Value.ref 123 },
          { hash := PySem.PyData.keyHash P (PySem.Str.ofString "__weakref__"),
            key := PySem.Value.str (PySem.Str.ofString "__weakref__") 341, val := PySem.Value.ref 124 },
          { hash := PySem.PyData.keyHash P (PySem.Str.ofString "__doc__"),
            key := PySem.Value.str (PySem.Str.ofString "__doc__") 342, val := PySem.Value.none }]
        5 }) ::
(nat_lit 122,
  { cls := PySem.Value.type "type",
    data :=
      PySem.Data.cls
        { name := PySem.Str.ofString "_Accumulator", bases := [PySem.Value.type "list"],
          mro := [PySem.Value.ref 122, PySem.Value.type "list", PySem.Value.type "object"], ns := 121,
          qualname := PySem.Str.ofString "_Accumulator" },
    slots :=
      #[Option.some (PySem.Value.ref 43), Option.none,
        Option.some (PySem.Value.str (PySem.Str.ofString "_Accumulator") 250),
        Option.some (PySem.Value.str (PySem.Str.ofString "_Accumulator") 258),
        Option.some (PySem.Value.builtin "list.__new__"), Option.some (PySem.Value.bool Bool.true)] }) ::
(nat_lit 123,
  { cls := PySem.Value.type "getset_descriptor",
    data :=
      PySem.Data.fields
        #[PySem.Value.str (PySem.Str.ofString "__dict__") 338, PySem.Value.ref 122,
          PySem.Value.builtin "function.__dict__", PySem.Value.builtin "function.__dict__#set"] }) ::
(nat_lit 124,
  { cls := PySem.Value.type "getset_descriptor",
    data :=
      PySem.Data.fields
        #[PySem.Value.str (PySem.Str.ofString "__weakref__") 340, PySem.Value.ref 122,
          PySem.Value.builtin "ExceptionGroup.__weakref__", PySem.Value.none] }) ::
(nat_lit 127, { cls := PySem.Value.type "tuple", data := PySem.Data.seq #[] }) ::
(nat_lit 130,
  { cls := PySem.Value.type "code",
    data :=
      PySem.Data.fields
        #[PySem.Value.str (PySem.Str.ofString "_law_least") 347, PySem.Value.str (PySem.Str.ofString "_law_least") 348,
          PySem.Value.str (PySem.Str.ofString "/claim/cut.py") 349, PySem.Value.int 116 0, PySem.Value.int 1 0,
          PySem.Value.int 0 0, PySem.Value.int 0 0, PySem.Value.int 3 0, PySem.Value.ref 127,
          PySem.Value.bool Bool.true, PySem.Value.int 181 0, PySem.Value.ref 128, PySem.Value.none, PySem.Value.none,
          PySem.Value.none, PySem.Value.ref 129, PySem.Value.int 350 0, PySem.Value.int 116 0,
          PySem.Value.str (PySem.Str.ofString "/claim/cut.py") 351] }) ::
(nat_lit 131, { cls := .type "function", data := .func (fnK (stK 14) (PySem.Str.ofString "_law_least") (PySem.Str.ofString "_law_least") ([]) (PySem.Value.none) (PySem.Value.str (PySem.Str.ofString "law_sn0024_01") 345) (PySem.Value.ref 130) (.none)) }) ::
(nat_lit 132, { cls := PySem.Value.type "tuple", data := PySem.Data.seq #[] }) ::
(nat_lit 135,
  { cls := PySem.Value.type "code",
    data :=
      PySem.Data.fields
        #[PySem.Value.str (PySem.Str.ofString "_law_apart") 353, PySem.Value.str (PySem.Str.ofString "_law_apart") 354,
          PySem.Value.str (PySem.Str.ofString "/claim/cut.py") 355, PySem.Value.int 130 0, PySem.Value.int 3 0,
          PySem.Value.int 0 0, PySem.Value.int 0 0, PySem.Value.int 3 0, PySem.Value.ref 132,
          PySem.Value.bool Bool.true, PySem.Value.int 181 0, PySem.Value.ref 133, PySem.Value.none, PySem.Value.none,
          PySem.Value.none, PySem.Value.ref 134, PySem.Value.int 356 0, PySem.Value.int 130 0,
          PySem.Value.str (PySem.Str.ofString "/claim/cut.py") 357] }) ::
(nat_lit 136, { cls := .type "function", data := .func (fnK (stK 15) (PySem.Str.ofString "_law_apart") (PySem.Str.ofString "_law_apart") ([]) (PySem.Value.none) (PySem.Value.str (PySem.Str.ofString "law_sn0024_01") 345) (PySem.Value.ref 135) (.none)) }) ::
(nat_lit 137, { cls := PySem.Value.type "tuple", data := PySem.Data.seq #[] }) ::
(nat_lit 140,
  { cls := PySem.Value.type "code",
    data :=
      PySem.Data.fields
        #[PySem.Value.str (PySem.Str.ofString "law") 359, PySem.Value.str (PySem.Str.ofString "law") 360,
          PySem.Value.str (PySem.Str.ofString "/claim/cut.py") 361, PySem.Value.int 143 0, PySem.Value.int 1 0,
          PySem.Value.int 0 0, PySem.Value.int 0 0, PySem.Value.int 3 0, PySem.Value.ref 137,
          PySem.Value.bool Bool.true, PySem.Value.int 181 0, PySem.Value.ref 138, PySem.Value.none, PySem.Value.none,
          PySem.Value.none, PySem.Value.ref 139, PySem.Value.int 362 0, PySem.Value.int 143 0,
          PySem.Value.str (PySem.Str.ofString "/claim/cut.py") 363] }) ::
(nat_lit 141, { cls := .type "function", data := .func (fnK (stK 16) (PySem.Str.ofString "law") (PySem.Str.ofString "law") ([]) (PySem.Value.none) (PySem.Value.str (PySem.Str.ofString "law_sn0024_01") 345) (PySem.Value.ref 140) (.none)) }) :: []
end Mine
end
section
open PySem PySem.W PyProof.Rows PySem.Calls PySem.Spec
namespace Mine
abbrev P0 : Program := PySem.Challenge.rw_sn0024_01.row.prog
abbrev Ret (h₀ : Heap) (L : Addr) (m : Str → Option Value) (news : List (Addr × Obj)) (s : Shared) (Q : Value → Shared → Prop) (R : Tok → Value) : Prop :=
  ∀ (t : Tok) (h' : Heap) (tk' : Nat), Fr h₀ L h' m → News h₀ L h' news → Q (R t) { s with heap := h', toks := tk' }
/-- what a call of the def at f gives, from wherever a def's body stands -/
def Ct (w : World) (p : Program) (loose : List Str) (mean : ExcName → Option Value) (mg mb : Str → Option Value) (k : Nat) (f : Addr) (news : List (Addr × Obj)) (vs : List Value) (R : Tok → Value) : Prop :=
  ∀ (dp un : Nat) (gd : Option (List Code)) (cn : Str) (cs : Scope) (a : Addr) (ccd : Value) (cl : List (Str × Addr)) (outer : List Env) (A₀ : Around) (base h₀ : Heap) (L : Addr) (m : Str → Option Value) (s : Shared) (Q E : Value → Shared → Prop),
    Below A₀ base outer h₀ → Fr h₀ L s.heap m → (hd.heap_39 w.params).In h₀ → News h₀ L s.heap news → Top p loose mean mg mb h₀ → cs.kind = .function →
    dp + k < recursionLimit → un + 10 * k < cLine → Ret h₀ L m news s Q R →
      wpAny (model P0 w) (ktrTop dp un gd cn cs L a ccd cl outer) (call (.ref f) vs) Q E s
theorem eps_all {α : Type} (ne : Nonempty α) (P : α → Prop) (h : P (@Classical.epsilon α ne fun a => ¬ P a)) (a : α) : P a := by
  apply Classical.byContradiction
  intro hn
  exact @Classical.epsilon_spec α (fun a => ¬ P a) ⟨a, hn⟩ h
theorem neW : Nonempty World := ⟨{ draws := fun _ _ => 0, params := { strHash := fun _ => 0, shareClass := fun _ => 0, mergeTok := fun t => t, idOf := fun _ => 0, idOfShared := fun _ _ => 0, followText := fun _ => true, idOfImm := fun _ => 0 } }⟩
abbrev CtB (w : World) (p : Program) (loose : List Str) (mean : ExcName → Option Value) (mg mb : Str → Option Value) (k : Nat) (f : Addr) (news : List (Addr × Obj)) (vs : List Value) (R : Tok → Value) (dp un : Nat) (gd : Option (List Code)) (cn : Str) (cs : Scope) (a : Addr) (ccd : Value) (cl : List (Str × Addr)) (outer : List Env) (A₀ : Around) (base h₀ : Heap) (L : Addr) (m : Str → Option Value) (s : Shared) (Q E : Value → Shared → Prop) : Prop :=
    Below A₀ base outer h₀ → Fr h₀ L s.heap m → (hd.heap_39 w.params).In h₀ → News h₀ L s.heap news → Top p loose mean mg mb h₀ → cs.kind = .function →
    dp + k < recursionLimit → un + 10 * k < cLine → Ret h₀ L m news s Q R →
      wpAny (model P0 w) (ktrTop dp un gd cn cs L a ccd cl outer) (call (.ref f) vs) Q E s
def sc (x y : Str) : Int := if x == y then 0 else if Txt.lower x == Txt.lower y then 1 else 2
end Mine
end
section
open PySem PySem.W PyProof.Rows PySem.Calls PySem.Spec
namespace Mine
def bodyOf : Stmt → List Stmt
  | .FunctionDef _ _ body _ _ _ _ _ _ _ => body
  | _ => []
def scopeOf : Stmt → Scope
  | .FunctionDef _ _ _ _ _ _ scope _ _ _ => scope
  | _ => default
def topStmt (i : Nat) : Stmt := P0.main.body.getD i (.Pass default)
def levS : Scope := scopeOf (topStmt 6)
def levB : List Stmt := bodyOf (topStmt 6)
abbrev levE (L : Addr) : Env := envOf (Str.ofString "_levenshtein_distance") levS L 35 (.ref 34)
/-- a piece of a def's body: what it gives, from any frame in which it may stand -/
abbrev Pie (w : World) (p : Program) (loose : List Str) (mean : ExcName → Option Value) (mg mb : Str → Option Value) (k : Nat) (cn : Str) (cs : Scope) (f : Addr) (cd : Value) (code : List Stmt) (m : (Str → Option Value) → Prop) (news : List (Addr × Obj)) (Post : Flow → (Str → Option Value) → List (Addr × Obj) → Prop) : Prop :=
  ∀ (dp un : Nat) (gd : Option (List Code)) (outer : List Env) (A₀ : Around) (base h₀ : Heap) (L : Addr) (u : Str → Option Value) (s : Shared) (Q : Flow → Shared → Prop) (R : Result → Shared → Prop),
    Below A₀ base outer h₀ → Fr h₀ L s.heap u → m u → (hd.heap_39 w.params).In h₀ → News h₀ L s.heap news → Top p loose mean mg mb h₀ →
    dp + k < recursionLimit → un + 10 * k < cLine → (∀ f h' tk' m' news', Post f m' news' → Fr h₀ L h' m' → News h₀ L h' news' → Q f { s with heap := h', toks := tk' }) →
      wpAny (model P0 w) (ktrTop dp un gd cn cs L f cd [] outer) (execs code (envOf cn cs L f cd)) Q
        (fun e s' => wpAny (model P0 w) (ktrTop dp un gd cn cs L f cd [] outer) (leaving (envOf cn cs L f cd) e) (fun _ s'' => R (.error e) s'') (fun e' s'' => R (.error e') s'') s') s
theorem names_sub {m : Str → Option Value} {l1 l2 : List (Str × Value)} (h : ∀ p ∈ l2, m p.1 = some p.2) (s : ∀ p ∈ l1, p ∈ l2) : ∀ p ∈ l1, m p.1 = some p.2 := fun p hp => h p (s p hp)
abbrev PieB (w : World) (p : Program) (loose : List Str) (mean : ExcName → Option Value) (mg mb : Str → Option Value) (k : Nat) (cn : Str) (cs : Scope) (f : Addr) (cd : Value) (code : List Stmt) (m : (Str → Option Value) → Prop) (news : List (Addr × Obj)) (Post : Flow → (Str → Option Value) → List (Addr × Obj) → Prop) (dp un : Nat) (gd : Option (List Code)) (outer : List Env) (A₀ : Around) (base h₀ : Heap) (L : Addr) (u : Str → Option Value) (s : Shared) (Q : Flow → Shared → Prop) (R : Result → Shared → Prop) : Prop :=
    Below A₀ base outer h₀ → Fr h₀ L s.heap u → m u → (hd.heap_39 w.params).In h₀ → News h₀ L s.heap news → Top p loose mean mg mb h₀ →
    dp + k < recursionLimit → un + 10 * k < cLine → (∀ f h' tk' m' news', Post f m' news' → Fr h₀ L h' m' → News h₀ L h' news' → Q f { s with heap := h', toks := tk' }) →
      wpAny (model P0 w) (ktrTop dp un gd cn cs L f cd [] outer) (execs code (envOf cn cs L f cd)) Q
        (fun e s' => wpAny (model P0 w) (ktrTop dp un gd cn cs L f cd [] outer) (leaving (envOf cn cs L f cd) e) (fun _ s'' => R (.error e) s'') (fun e' s'' => R (.error e') s'') s') s
end Mine
namespace Mine
def ellS : Scope := scopeOf (topStmt 9)
def ellBd : List Stmt := bodyOf (topStmt 9)
end Mine
end
section
open PySem PySem.W PyProof.Rows PySem.Calls PySem.Spec
open PySem.Builtin.Str (strSliceIndices)
namespace Mine
def ofL (l : List Nat) : Str := ⟨l.toArray⟩
theorem ofL_cps (x : Str) : ofL x.cps.toList = x := by cases x; simp [ofL]
theorem ofL_len (l : List Nat) : (ofL l).length = l.length := by simp [ofL, Str.length]
theorem ofL_inj {a b : List Nat} (h : ofL a = ofL b) : a = b := by simpa [ofL] using h
theorem ofL_beq (a b : List Nat) : (ofL a == ofL b) = (a == b) := by
  rw [Bool.eq_iff_iff]; simp [ofL]
def clipI (d : Nat) (o : Option Int) (n : Nat) : Nat := match o with
  | none => d
  | some i => (max 0 (min (if i < 0 then i + n else i) (n : Int))).toNat
theorem clipI_le {d n : Nat} (hd : d ≤ n) (o : Option Int) : clipI d o n ≤ n := by
  unfold clipI; split <;> first | (grind) | omega
theorem idx_eq (l u : Option Int) (n : Nat) : strSliceIndices l u 1 n = (List.range (clipI n u n - clipI 0 l n)).map (fun k => clipI 0 l n + k) := by
  have key : ∀ (a b : Nat), sliceRange (a : Int) (b : Int) 1 = (List.range (b - a)).map (fun k => a + k) := by
    intro a b
    unfold sliceRange
    have h1 : (1 : Int) > 0 := by decide
    simp only [h1, if_true]
    have e : (if (a : Int) < b then ((b : Int) - a + 1 - 1) / 1 else 0).toNat = b - a := by
      split
      · rw [Int.ediv_one]; first | (grind) | omega
      · first | (grind) | omega
    rw [e]
    apply List.map_congr_left
    intro k _
    first | (grind) | omega
  have hl : (match l with | none => (0 : Int) | some i => max 0 (min (if i < 0 then i + (n : Int) else i) (n : Int))) = ((clipI 0 l n : Nat) : Int) := by
    unfold clipI; cases l with
    | none => rfl
    | some i => simp only; first | (grind) | omega
  have hu : (match u with | none => (n : Int) | some i => max 0 (min (if i < 0 then i + (n : Int) else i) (n : Int))) = ((clipI n u n : Nat) : Int) := by
    unfold clipI; cases u with
    | none => rfl
    | some i => simp only; first | (grind) | omega
  rw [← key, ← hl, ← hu]
  unfold strSliceIndices
  cases l <;> cases u <;> rfl
theorem fm_some {α β : Type} (f : α → Option β) (g : α → β) : ∀ (l : List α), (∀ k ∈ l, f k = some (g k)) → l.filterMap f = l.map g
  | [], _ => rfl
  | a :: l, h => by rw [List.filterMap_cons, h a (.head _), List.map_cons, fm_some f g l fun k hk => h k (.tail _ hk)]
theorem pick_eq (xs : List Nat) (a b : Nat) (hb : b ≤ xs.length) : ((List.range (b - a)).map (fun k => a + k)).filterMap (fun i => xs[i]?) = (xs.take b).drop a := by
  apply List.ext_getElem?
  intro i
  rw [List.filterMap_map, List.getElem?_drop, List.getElem?_take]
  by_cases hi : a + i < b
  · have h1 : a + i < xs.length := by first | (grind) | omega
    rw [if_pos hi]
    have : List.filterMap ((fun i => xs[i]?) ∘ fun k => a + k) (List.range (b - a)) = (List.range (b - a)).map (fun k => xs.getD (a + k) 0) := by
      apply fm_some
      intro k hk
      have := List.mem_range.mp hk
      have h2 : a + k < xs.length := by first | (grind) | omega
      simp [List.getD, h2]
    rw [this, List.getElem?_map, List.getElem?_range (by first | (grind) | omega)]
    simp [List.getD, h1]
  · rw [if_neg hi]
    apply List.getElem?_eq_none
    refine Nat.le_trans (List.length_filterMap_le _ _) ?_
    rw [List.length_range]; first | (grind) | omega
theorem slice_ofL (xs : List Nat) (l u : Option Int) : Txt.slice (ofL xs) l u = ofL ((xs.take (clipI xs.length u xs.length)).drop (clipI 0 l xs.length)) := by
  unfold Txt.slice
  have hn : (ofL xs).length = xs.length := ofL_len xs
  have hf : (fun (i : Nat) => (ofL xs).cps[i]?) = fun i => xs[i]? := by funext i; simp [ofL]
  rw [hn, idx_eq]
  split
  · rename_i h
    simp only [beq_self_eq_true, Bool.true_and, beq_iff_eq, List.length_map, List.length_range] at h
    have h1 := clipI_le (Nat.le_refl xs.length) u
    by_cases h0 : xs.length = 0
    · have : xs = [] := List.eq_nil_of_length_eq_zero h0
      subst this; simp
    · have h2 : clipI 0 l xs.length = 0 := by first | (grind) | omega
      have h3 : clipI xs.length u xs.length = xs.length := by first | (grind) | omega
      rw [h2, h3]; simp
  · show (⟨(List.filterMap (fun (i : Nat) => (ofL xs).cps[i]?) _).toArray⟩ : Str) = _
    rw [hf, pick_eq xs _ _ (clipI_le (Nat.le_refl _) u)]
    rfl
theorem slice_from (xs : List Nat) (k : Nat) : Txt.slice (ofL xs) (some (k : Int)) none = ofL (xs.drop k) := by
  rw [slice_ofL]
  congr 1
  have h2 : clipI xs.length none xs.length = xs.length := rfl
  rw [h2, List.take_length]
  unfold clipI
  simp only
  by_cases h : k ≤ xs.length
  · have : (max 0 (min (if (k : Int) < 0 then (k : Int) + xs.length else k) (xs.length : Int))).toNat = k := by split <;> first | (grind) | omega
    rw [this]
  · have : (max 0 (min (if (k : Int) < 0 then (k : Int) + xs.length else k) (xs.length : Int))).toNat = xs.length := by split <;> first | (grind) | omega
    rw [this, List.drop_eq_nil_of_le (by first | (grind) | omega), List.drop_eq_nil_of_le (by first | (grind) | omega)]
theorem slice_to (xs : List Nat) (k : Nat) : Txt.slice (ofL xs) none (some (k : Int)) = ofL (xs.take k) := by
  rw [slice_ofL]
  congr 1
  show List.drop 0 _ = _
  rw [List.drop_zero]
  unfold clipI
  simp only
  by_cases h : k ≤ xs.length
  · have : (max 0 (min (if (k : Int) < 0 then (k : Int) + xs.length else k) (xs.length : Int))).toNat = k := by split <;> first | (grind) | omega
    rw [this]
  · have : (max 0 (min (if (k : Int) < 0 then (k : Int) + xs.length else k) (xs.length : Int))).toNat = xs.length := by split <;> first | (grind) | omega
    rw [this, List.take_of_length_le (by first | (grind) | omega), List.take_of_length_le (by first | (grind) | omega)]
theorem slice_to_neg (xs : List Nat) (k : Nat) (hk : k ≠ 0) : Txt.slice (ofL xs) none (some (-(k : Int))) = ofL (xs.take (xs.length - k)) := by
  rw [slice_ofL]
  congr 1
  show List.drop 0 _ = _
  rw [List.drop_zero]
  unfold clipI
  simp only
  have : (max 0 (min (if -(k : Int) < 0 then -(k : Int) + xs.length else -(k : Int)) (xs.length : Int))).toNat = xs.length - k := by split <;> first | (grind) | omega
  rw [this]
theorem slice_all (xs : List Nat) : Txt.slice (ofL xs) none none = ofL xs := by
  rw [slice_ofL]
  congr 1
  show List.drop 0 (List.take xs.length xs) = xs
  simp
theorem item_ofL (xs : List Nat) (i : Nat) : Txt.item (ofL xs) (i : Int) = ofL [xs.getD i 0] := by
  unfold Txt.item Txt.charAt seqIndex?
  rw [ofL_len]
  have : ¬ ((i : Int) < 0) := by first | (grind) | omega
  simp only [this, if_false]
  by_cases h : i < xs.length
  · have h1 : (decide (0 ≤ (i : Int)) && decide ((i : Int) < (xs.length : Int))) = true := by simp; exact h
    rw [if_pos h1]
    simp [ofL, List.getD]
  · have h1 : ¬ ((decide (0 ≤ (i : Int)) && decide ((i : Int) < (xs.length : Int))) = true) := by simp; first | (grind) | omega
    rw [if_neg h1]
    simp [ofL, List.getD, List.getElem?_eq_none (Nat.le_of_not_lt h)]
theorem item_neg (xs : List Nat) (i : Nat) (h0 : i ≠ 0) (h : i ≤ xs.length) : Txt.item (ofL xs) (-(i : Int)) = ofL [xs.getD (xs.length - i) 0] := by
  unfold Txt.item Txt.charAt seqIndex?
  rw [ofL_len]
  have h2 : (-(i : Int)) < 0 := by first | (grind) | omega
  simp only [h2, if_true]
  have h1 : (decide (0 ≤ (-(i : Int) + (xs.length : Int))) && decide ((-(i : Int) + (xs.length : Int)) < (xs.length : Int))) = true := by simp; first | (grind) | omega
  rw [if_pos h1]
  have h3 : (-(i : Int) + (xs.length : Int)).toNat = xs.length - i := by first | (grind) | omega
  rw [h3]
  simp [ofL, List.getD]
end Mine
end
section
open PySem PySem.W PyProof.Rows PySem.Calls PySem.Spec
open PySem.Builtin.Str (occurrences subAt)
open PySem.StrLaws (occBody)
namespace Mine
def hitL (x y : List Nat) (hi i : Nat) : Bool := decide (i + y.length ≤ hi) && ((x.drop i).take y.length == y)
theorem hit_iff (x y : List Nat) (hi i : Nat) : (i + (ofL y).length ≤ hi ∧ subAt (ofL x) (ofL y) i = true) ↔ hitL x y hi i = true := by
  rw [StrLaws.subAt_eq, ofL_len]
  simp [hitL, ofL]
theorem occ_full (x y : List Nat) (hi : Nat) : ∀ (l : List Nat) (st : Array Nat × Nat), 1 ≤ st.1.size → (forIn l st (occBody (ofL x) (ofL y) hi 1)).run.fst = st.1
  | [], _, _ => rfl
  | a :: l, st, h => by
    rw [List.forIn_cons]
    unfold occBody
    rw [if_neg (by rintro ⟨⟨⟨h1, _⟩, _⟩, _⟩; first | (grind) | omega)]
    exact occ_full x y hi l _ h
theorem occ_one (x y : List Nat) (hi : Nat) : ∀ (l : List Nat) (free : Nat), (∀ i ∈ l, free ≤ i) → (forIn l ((#[] : Array Nat), free) (occBody (ofL x) (ofL y) hi 1)).run.fst.toList = (l.find? (hitL x y hi)).toList
  | [], _, _ => rfl
  | a :: l, free, h => by
    rw [List.forIn_cons]
    unfold occBody
    by_cases hc : hitL x y hi a = true
    · have h2 := (hit_iff x y hi a).mpr hc
      rw [if_pos ⟨⟨⟨by simp, h a (.head _)⟩, h2.1⟩, h2.2⟩]
      have e := occ_full x y hi l (#[].push a, a + (ofL y).length) (by simp)
      rw [List.find?_cons_of_pos hc]
      show ((forIn l (#[].push a, a + (ofL y).length) (occBody (ofL x) (ofL y) hi 1)).run.fst).toList = _
      rw [e]; rfl
    · rw [if_neg (fun h3 => hc ((hit_iff x y hi a).mp ⟨h3.1.2, h3.2⟩))]
      rw [List.find?_cons_of_neg hc]
      exact occ_one x y hi l free fun i hi' => h i (.tail _ hi')
/-- the first place at which y lies in x between lo and hi -/
def findL (x y : List Nat) (lo hi : Nat) : Option Nat := (List.range' lo (hi + 1 - lo)).find? (hitL x y hi)
theorem occ1_eq (x y : List Nat) (lo hi : Nat) : occurrences (ofL x) (ofL y) lo hi 1 = (findL x y lo hi).toList := by
  rw [StrLaws.occ_eq]
  exact occ_one x y hi _ lo fun i hi' => (List.mem_range'_1.mp hi').1
theorem starts_eq (x y : List Nat) : Txt.startswith (ofL x) (ofL y) = y.isPrefixOf x := by
  rw [Bool.eq_iff_iff]
  unfold Txt.startswith
  rw [Bool.and_eq_true, decide_eq_true_eq, List.isPrefixOf_iff_prefix, Nat.zero_add, StrLaws.subAt_eq, ofL_len, ofL_len]
  simp only [ofL, List.drop_zero, beq_iff_eq]
  rw [List.prefix_iff_eq_take]
  constructor
  · rintro ⟨_, h⟩; exact h.symm
  · intro h
    exact ⟨by have := congrArg List.length h; rw [List.length_take] at this; first | (grind) | omega, h.symm⟩
theorem ends_eq (x y : List Nat) : Txt.endswith (ofL x) (ofL y) = y.isSuffixOf x := by
  rw [Bool.eq_iff_iff]
  unfold Txt.endswith
  rw [Bool.and_eq_true, decide_eq_true_eq, List.isSuffixOf_iff_suffix, Nat.zero_add, StrLaws.subAt_eq, ofL_len, ofL_len]
  simp only [ofL, beq_iff_eq]
  rw [List.suffix_iff_eq_drop]
  constructor
  · rintro ⟨h1, h⟩
    rw [List.take_of_length_le (by rw [List.length_drop]; first | (grind) | omega)] at h
    exact h.symm
  · intro h
    have := congrArg List.length h
    rw [List.length_drop] at this
    refine ⟨by first | (grind) | omega, ?_⟩
    rw [List.take_of_length_le (by rw [List.length_drop]; first | (grind) | omega)]
    exact h.symm
end Mine
namespace Mine
theorem gives_find_between (x y : Str) (i j : Int) (t u v r : Tok) : Gives (PySem.Builtin.«str.find» ⟨[.str x t, .str y u, .int i v, .int j r], []⟩) (.int (match occurrences x y (fromIndex x.length i) (min (fromIndex x.length j) x.length) 1 with | k :: _ => (k : Int) | [] => -1)) := by
  show Gives (match occurrences x y (fromIndex x.length i) (min (fromIndex x.length j) x.length) 1 with | k :: _ => retInt k | [] => (do rule "str.find.not-found"; retInt (-1))) _
  cases occurrences x y (fromIndex x.length i) (min (fromIndex x.length j) x.length) 1 with
  | nil => exact .rule (.of_eq rfl)
  | cons k _ => exact .of_eq rfl
end Mine
namespace Mine
theorem call_find4 {prog : Program} {w : World} {A : Around} {E : Value → Shared → Prop} {s : Shared} {x y : List Nat} {t u v r : Tok} {i j : Nat} {Q : Value → Shared → Prop} (hj : j ≤ x.length)
    (hq : Q (.int (match findL x y i j with | some k => (k : Int) | none => -1) s.toks) { s with toks := s.toks + 1 }) : wpAny (model prog w) A (call (.builtin "str.find") [.str (ofL x) t, .str (ofL y) u, .int (i : Int) v, .int (j : Int) r]) Q E s := by
  refine call_gives F.slot_str_find (typeIs_str _ _ _) F.entry_str_find (F.args_str_find_4 _ _ _ _) (gives_find_between (ofL x) (ofL y) i j t u v r) ?_
  have e1 : fromIndex (ofL x).length (i : Int) = i := by
    unfold fromIndex; rw [if_neg (by first | (grind) | omega)]; first | (grind) | omega
  have e2 : min (fromIndex (ofL x).length (j : Int)) (ofL x).length = j := by
    unfold fromIndex; rw [if_neg (by first | (grind) | omega), ofL_len]; first | (grind) | omega
  rw [e1, e2, occ1_eq]
  cases h : findL x y i j with
  | none => rw [h] at hq; exact hq
  | some k => rw [h] at hq; exact hq
/-- the greedy places of y in x, over the places of a list -/
def posL (p : Nat → Bool) (w : Nat) : List Nat → Nat → List Nat
  | [], _ => []
  | i :: l, free => if free ≤ i ∧ p i = true then i :: posL p w l (i + w) else posL p w l free
theorem occ_all (x y : List Nat) (hi limit : Nat) : ∀ (l : List Nat) (st : Array Nat × Nat), st.1.size + l.length ≤ limit → (forIn l st (occBody (ofL x) (ofL y) hi limit)).run.fst.toList = st.1.toList ++ posL (hitL x y hi) y.length l st.2
  | [], st, _ => by simp [posL]
  | a :: l, st, h => by
    rw [List.forIn_cons]
    unfold occBody
    rw [List.length_cons] at h
    by_cases hc : st.2 ≤ a ∧ hitL x y hi a = true
    · have h2 := (hit_iff x y hi a).mpr hc.2
      rw [if_pos ⟨⟨⟨by first | (grind) | omega, hc.1⟩, h2.1⟩, h2.2⟩]
      have e := occ_all x y hi limit l (st.1.push a, a + (ofL y).length) (by simp; first | (grind) | omega)
      show ((forIn l (st.1.push a, a + (ofL y).length) (occBody (ofL x) (ofL y) hi limit)).run.fst).toList = _
      rw [e, posL, if_pos hc, ofL_len]; simp
    · rw [if_neg (fun h3 => hc ⟨h3.1.1.2, (hit_iff x y hi a).mp ⟨h3.1.2, h3.2⟩⟩)]
      rw [posL, if_neg hc]
      exact occ_all x y hi limit l st (by first | (grind) | omega)
def dots : List Nat := [46, 46, 46]
/-- pieces, three dots between them -/
def joinD : List (List Nat) → List Nat
  | [] => []
  | [p] => p
  | p :: q :: r => p ++ dots ++ joinD (q :: r)
def cutsD : List (List Nat) → Nat → List Nat
  | [], _ => []
  | [_], _ => []
  | p :: q :: r, a => (a + p.length) :: cutsD (q :: r) (a + p.length + 3)
theorem pos_skip (p : Nat → Bool) (w : Nat) : ∀ (l l' : List Nat) (free : Nat), (∀ i ∈ l, ¬ (free ≤ i ∧ p i = true)) → posL p w (l ++ l') free = posL p w l' free
  | [], _, _, _ => rfl
  | a :: l, l', free, h => by
    rw [List.cons_append, posL, if_neg (h a (.head _))]
    exact pos_skip p w l l' free fun i hi => h i (.tail _ hi)
theorem no_hit {x : List Nat} {a i : Nat} {p r : List Nat} (e : x.drop a = p ++ r) (hp : 46 ∉ p) (h1 : a ≤ i) (h2 : i < a + p.length) (hi : Nat) : hitL x dots hi i = false := by
  unfold hitL
  have : (x.drop i).take 3 ≠ dots := by
    have e2 : x.drop i = (p ++ r).drop (i - a) := by rw [← e, List.drop_drop]; congr 1; first | (grind) | omega
    rw [e2, List.drop_append_of_le_length (by first | (grind) | omega), List.drop_eq_getElem_cons (by first | (grind) | omega : i - a < p.length)]
    intro h
    have h3 : p[i - a] = 46 := by
      rw [List.cons_append] at h
      exact (List.cons.inj (h : p[i - a] :: List.take 2 (p.drop (i - a + 1) ++ r) = 46 :: [46, 46])).1
    exact hp (h3 ▸ List.getElem_mem _)
  have h5 : ((x.drop i).take dots.length == dots) = false := by
    show ((x.drop i).take 3 == dots) = false
    simpa using this
  rw [h5]; simp
theorem pos_join : ∀ (ps : List (List Nat)) (x : List Nat) (a : Nat), ps ≠ [] → (∀ p ∈ ps, 46 ∉ p) → x.drop a = joinD ps → a ≤ x.length →
    posL (hitL x dots x.length) 3 (List.range' a (x.length + 1 - a)) a = cutsD ps a
  | [], _, _, h, _, _, _ => absurd rfl h
  | [p], x, a, _, hp, e, ha => by
    show _ = []
    have hl := congrArg List.length e
    rw [List.length_drop] at hl
    have e0 : x.drop a = p ++ [] := by rw [List.append_nil]; exact e
    change x.length - a = p.length at hl
    have hr : List.range' a (x.length + 1 - a) = List.range' a p.length ++ [a + p.length] := by
      rw [show x.length + 1 - a = p.length + 1 by first | (grind) | omega, List.range'_1_concat]
    rw [hr, pos_skip]
    · rw [posL, if_neg]
      · rfl
      · rintro ⟨_, h⟩
        unfold hitL at h
        have h2 : decide (a + p.length + dots.length ≤ x.length) = false := by
          rw [decide_eq_false_iff_not]
          show ¬ a + p.length + 3 ≤ x.length
          first | (grind) | omega
        rw [h2] at h
        cases h
    · rintro i hi ⟨_, h⟩
      have hm := List.mem_range'_1.mp hi
      rw [no_hit e0 (hp p (.head _)) hm.1 hm.2] at h
      cases h
  | p :: q :: r, x, a, _, hp, e, ha => by
    show _ = (a + p.length) :: cutsD (q :: r) (a + p.length + 3)
    have hl := congrArg List.length e
    have e0 : x.drop a = p ++ (dots ++ joinD (q :: r)) := by rw [← List.append_assoc]; exact e
    have hlx : x.length - a = p.length + (3 + (joinD (q :: r)).length) := by
      have := congrArg List.length e0
      rw [List.length_drop, List.length_append, List.length_append] at this
      exact this
    have ed : x.drop (a + p.length) = dots ++ joinD (q :: r) := by
      rw [← List.drop_drop, e0, List.drop_left]
    have ed3 : x.drop (a + p.length + 3) = joinD (q :: r) := by
      rw [← List.drop_drop, ed]; rfl
    have hr : List.range' a (x.length + 1 - a) = List.range' a p.length ++ ((a + p.length) :: ([a + p.length + 1, a + p.length + 2] ++ List.range' (a + p.length + 3) (x.length + 1 - (a + p.length + 3)))) := by
      rw [show x.length + 1 - a = p.length + (1 + (2 + (x.length + 1 - (a + p.length + 3)))) by first | (grind) | omega, ← List.range'_append_1, ← List.range'_append_1, ← List.range'_append_1]
      rfl
    rw [hr, pos_skip]
    · have hh : hitL x dots x.length (a + p.length) = true := by
        unfold hitL
        rw [ed]
        have h2 : decide (a + p.length + dots.length ≤ x.length) = true := by
          rw [decide_eq_true_eq]
          show a + p.length + 3 ≤ x.length
          first | (grind) | omega
        rw [h2]; rfl
      rw [posL, if_pos ⟨by first | (grind) | omega, hh⟩, pos_skip]
      · rw [pos_join (q :: r) x (a + p.length + 3) (by simp) (fun z hz => hp z (.tail _ hz)) ed3 (by first | (grind) | omega)]
      · rintro i hi ⟨h, _⟩
        rcases List.mem_cons.mp hi with rfl | hi
        · first | (grind) | omega
        · have := List.mem_singleton.mp hi
          first | (grind) | omega
    · rintro i hi ⟨_, h⟩
      have hm := List.mem_range'_1.mp hi
      rw [no_hit e0 (hp p (.head _)) hm.1 hm.2] at h
      cases h
end Mine

namespace Mine
open PySem.StrLaws (partsFrom)
theorem parts_join : ∀ (ps : List (List Nat)) (x : List Nat) (a : Nat), ps ≠ [] → x.drop a = joinD ps → a ≤ x.length → partsFrom (ofL x) 3 a (cutsD ps a) = ps.map ofL
  | [], _, _, h, _, _ => absurd rfl h
  | [p], x, a, _, e, ha => by
    show [PySem.Builtin.Str.strSub (ofL x) a (ofL x).length] = [ofL p]
    have h2 : PySem.Builtin.Str.strSub (ofL x) a (ofL x).length = ofL p := by
      apply Str.ext'
      apply Array.toList_inj.mp
      rw [StrLaws.strSub_toList, ofL_len]
      show (x.drop a).take (x.length - a) = p
      rw [List.take_of_length_le (by rw [List.length_drop]; first | (grind) | omega)]
      exact e
    rw [h2]
  | p :: q :: r, x, a, _, e, ha => by
    show PySem.Builtin.Str.strSub (ofL x) a (a + p.length) :: partsFrom (ofL x) 3 (a + p.length + 3) (cutsD (q :: r) (a + p.length + 3)) = ofL p :: (q :: r).map ofL
    have e0 : x.drop a = p ++ (dots ++ joinD (q :: r)) := by rw [← List.append_assoc]; exact e
    have hlx : x.length - a = p.length + (3 + (joinD (q :: r)).length) := by
      have := congrArg List.length e0
      rw [List.length_drop, List.length_append, List.length_append] at this
      exact this
    have ed3 : x.drop (a + p.length + 3) = joinD (q :: r) := by
      rw [← List.drop_drop, ← List.drop_drop, e0, List.drop_left]; rfl
    rw [parts_join (q :: r) x (a + p.length + 3) (by simp) ed3 (by first | (grind) | omega)]
    have h2 : PySem.Builtin.Str.strSub (ofL x) a (a + p.length) = ofL p := by
      apply Str.ext'
      apply Array.toList_inj.mp
      rw [StrLaws.strSub_toList]
      show (x.drop a).take (a + p.length - a) = p
      rw [e0, show a + p.length - a = p.length by first | (grind) | omega, List.take_left]
    rw [h2]
theorem dots_eq : Str.ofString "..." = ofL dots := by decide +kernel
theorem kind_dots : PySem.Builtin.Str.strKind (ofL dots) = 1 := by decide +kernel
theorem kind_pos (x : Str) : 1 ≤ PySem.Builtin.Str.strKind x := by
  unfold PySem.Builtin.Str.strKind
  split
  · first | (grind) | omega
  · split <;> first | (grind) | omega
/-- the text's pieces, and that the dots lie in it -/
theorem split_join (ps : List (List Nat)) (h2 : 2 ≤ ps.length) (hp : ∀ p ∈ ps, 46 ∉ p) :
    Txt.split (ofL (joinD ps)) (Str.ofString "...") = ps.map ofL ∧ (occurrences (ofL (joinD ps)) (Str.ofString "...") 0 (ofL (joinD ps)).length 1).isEmpty = false := by
  have hne : ps ≠ [] := by intro h; rw [h] at h2; simp at h2
  have hl3 : 3 ≤ (joinD ps).length := by
    match ps, h2 with
    | p :: q :: r, _ =>
      show 3 ≤ (p ++ dots ++ joinD (q :: r)).length
      rw [List.length_append, List.length_append]
      show 3 ≤ p.length + 3 + _
      first | (grind) | omega
  have hocc : occurrences (ofL (joinD ps)) (ofL dots) 0 (ofL (joinD ps)).length ((ofL (joinD ps)).length + 1) = cutsD ps 0 := by
    rw [StrLaws.occ_eq, ofL_len, occ_all _ _ _ _ _ _ (by simp)]
    exact pos_join ps (joinD ps) 0 hne hp rfl (Nat.zero_le _)
  have hc : ∃ c r, cutsD ps 0 = c :: r := by
    match ps, h2 with
    | p :: q :: r, _ => exact ⟨_, _, rfl⟩
  obtain ⟨c, r, hc⟩ := hc
  rw [dots_eq]
  constructor
  · unfold Txt.split
    rw [if_neg, hocc, if_neg, StrLaws.partsBetween_eq]
    · show partsFrom _ (ofL dots).length 0 _ = _
      exact parts_join ps (joinD ps) 0 hne rfl (Nat.zero_le _)
    · rw [hc]; simp
    · rw [kind_dots, ofL_len, ofL_len]
      have := kind_pos (ofL (joinD ps))
      show ¬ ((decide ((joinD ps).length < 3) || decide (PySem.Builtin.Str.strKind (ofL (joinD ps)) < 1)) = true)
      simp; first | (grind) | omega
  · have hm : c ∈ occurrences (ofL (joinD ps)) (ofL dots) 0 (ofL (joinD ps)).length ((ofL (joinD ps)).length + 1) := by rw [hocc, hc]; exact .head _
    have h3 := StrLaws.occ_spec _ _ _ _ _ c hm
    have h4 := (StrLaws.found_iff (ofL (joinD ps)) (ofL dots)).mpr ⟨c, h3⟩
    simpa using h4
theorem no_dots {x : List Nat} (h : 46 ∉ x) : (occurrences (ofL x) (Str.ofString "...") 0 (ofL x).length 1).isEmpty = true := by
  rw [dots_eq]
  cases he : (occurrences (ofL x) (ofL dots) 0 (ofL x).length 1).isEmpty with
  | true => rfl
  | false =>
    exfalso
    obtain ⟨i, h1, h2⟩ := (StrLaws.found_iff (ofL x) (ofL dots)).mp (by rw [he]; rfl)
    rw [StrLaws.subAt_eq, ofL_len] at h2
    rw [ofL_len, ofL_len] at h1
    have h2' : ((x.drop i).take 3 == dots) = true := h2
    rw [beq_iff_eq] at h2'
    have hm : 46 ∈ (x.drop i).take 3 := by rw [h2']; exact .head _
    exact h (List.mem_of_mem_drop (List.mem_of_mem_take hm))
end Mine
end
section
open PySem PySem.W PyProof.Rows PySem.Calls PySem.Spec
namespace Mine
def preN : List Nat → List Nat → Nat
  | a :: as, b :: bs => if a = b then preN as bs + 1 else 0
  | _, _ => 0
def scN (c d : Nat) : Int := sc (ofL [c]) (ofL [d])
def pmin (a b : Int) : Int := if b < a then b else a
def inner (c : Nat) : List Nat → List Int → Int → Int → Int → List Int × Int × Int
  | a :: as, r :: rs, d, res, mn =>
    let x := pmin (pmin res r + 2) (d + scN c a)
    let o := inner c as rs r x (if x < mn then x else mn)
    (x :: o.1, o.2)
  | _, rs, _, res, mn => (rs, res, mn)
def outer (as : List Nat) (mx : Int) : List Nat → Int → List Int → Int → Int
  | c :: bs, bi, row, _ =>
    let o := inner c as row (bi * 2) (bi * 2) 9223372036854775807
    if mx < o.2.2 then mx + 1 else outer as mx bs (bi + 1) o.1 o.2.1
  | [], _, _, res => res
def row0 (n : Nat) : List Int := (List.range n).map fun (i : Nat) => 2 + (i : Int) * 2
def core2 (a b : List Nat) (mx : Int) : Int :=
  if mx < ((b.length : Int) - a.length) * 2 then mx + 1 else outer a mx b 0 (row0 a.length) 0
def core (a b : List Nat) (mx : Int) : Int :=
  if a = [] ∨ b = [] then 2 * ((a.length : Int) + b.length) else if b.length < a.length then core2 b a mx else core2 a b mx
def cut (a : List Nat) (q : Nat) : List Nat := a.take (a.length - q)
def levL (x y : List Nat) (mx : Int) : Int :=
  if x = y then 0 else
    let k := preN x y
    let a := x.drop k
    let b := y.drop k
    let q := preN a.reverse b.reverse
    core (cut a q) (cut b q) mx
theorem preN_le (a b : List Nat) : preN a b ≤ a.length ∧ preN a b ≤ b.length := by
  induction a generalizing b with
  | nil => simp [preN]
  | cons x a ih => cases b with
    | nil => simp [preN]
    | cons y b =>
      simp only [preN, List.length_cons]
      have := ih b
      split <;> first | (grind) | omega
theorem getD_at {l : List Nat} {k : Nat} (h : k < l.length) : l.getD k 0 = l[k] := by simp [List.getD, h]
/-- the state of the first loop -/
def PreAt (x y : List Nat) (k : Nat) : Prop := k ≤ x.length ∧ k ≤ y.length ∧ preN (x.drop k) (y.drop k) + k = preN x y
def preT (x y : List Nat) (k : Nat) : Bool := decide (k < x.length) && (decide (k < y.length) && (x.getD k 0 == y.getD k 0))
theorem preAt0 (x y : List Nat) : PreAt x y 0 := ⟨Nat.zero_le _, Nat.zero_le _, by simp⟩
theorem preAt_go {x y : List Nat} {k : Nat} (h : PreAt x y k) (t : preT x y k = true) : PreAt x y (k + 1) ∧ k < x.length ∧ k < y.length := by
  simp only [preT, Bool.and_eq_true, decide_eq_true_eq, beq_iff_eq] at t
  obtain ⟨h1, h2, h3⟩ := t
  refine ⟨⟨h1, h2, ?_⟩, h1, h2⟩
  have e := h.2.2
  rw [List.drop_eq_getElem_cons h1, List.drop_eq_getElem_cons h2, preN] at e
  rw [getD_at h1, getD_at h2] at h3
  rw [if_pos h3] at e
  first | (grind) | omega
theorem preAt_end {x y : List Nat} {k : Nat} (h : PreAt x y k) (t : preT x y k = false) : k = preN x y := by
  have e := h.2.2
  by_cases h1 : k < x.length
  · by_cases h2 : k < y.length
    · rw [List.drop_eq_getElem_cons h1, List.drop_eq_getElem_cons h2, preN] at e
      simp only [preT, h1, h2, decide_true, Bool.true_and, beq_eq_false_iff_ne, ne_eq] at t
      rw [getD_at h1, getD_at h2] at t
      rw [if_neg t] at e
      first | (grind) | omega
    · rw [List.drop_eq_nil_of_le (Nat.le_of_not_lt h2)] at e
      cases hx : x.drop k with
      | nil => rw [hx] at e; simp [preN] at e; exact e
      | cons => rw [hx] at e; simp [preN] at e; exact e
  · rw [List.drop_eq_nil_of_le (Nat.le_of_not_lt h1)] at e
    simp [preN] at e; exact e
end Mine
namespace Mine
theorem preT_eq {x y : List Nat} {k : Nat} (hx : k ≤ x.length) (hy : k ≤ y.length) : preT x y k =
    (if ((Txt.slice (ofL x) (some (k : Int)) none).length : Int) ≠ 0 then (if ((Txt.slice (ofL y) (some (k : Int)) none).length : Int) ≠ 0 then (Txt.item (ofL x) (k : Int) == Txt.item (ofL y) (k : Int)) else false) else false) := by
  rw [slice_from, slice_from, item_ofL, item_ofL, ofL_beq, ofL_len, ofL_len, List.length_drop, List.length_drop]
  unfold preT
  by_cases h1 : k < x.length
  · by_cases h2 : k < y.length
    · rw [if_pos (by first | (grind) | omega), if_pos (by first | (grind) | omega)]
      simp [h1, h2]
    · rw [if_pos (by first | (grind) | omega), if_neg (by first | (grind) | omega)]
      simp [h2]
  · rw [if_neg (by first | (grind) | omega)]
    simp [h1]
end Mine
namespace Mine
theorem getD_rev {l : List Nat} {j : Nat} (h : j < l.length) : l.reverse.getD j 0 = l.getD (l.length - (j + 1)) 0 := by
  rw [getD_at (by rw [List.length_reverse]; exact h), getD_at (by first | (grind) | omega)]
  simp only [List.getElem_reverse]
  congr 1; first | (grind) | omega
theorem item_back {l : List Nat} {j : Nat} (h : j < l.length) : Txt.item (ofL l) (-(j : Int) - 1) = ofL [l.reverse.getD j 0] := by
  have e : (-(j : Int) - 1) = -((j + 1 : Nat) : Int) := by first | (grind) | omega
  rw [e, item_neg l (j + 1) (by first | (grind) | omega) (by first | (grind) | omega), getD_rev h]
theorem postT_eq0 {x y : List Nat} : preT x.reverse y.reverse 0 =
    (if ((Txt.slice (ofL x) none none).length : Int) ≠ 0 then (if ((Txt.slice (ofL y) none none).length : Int) ≠ 0 then (Txt.item (ofL x) (-((0 : Nat) : Int) - 1) == Txt.item (ofL y) (-((0 : Nat) : Int) - 1)) else false) else false) := by
  unfold preT
  rw [slice_all, slice_all, List.length_reverse, List.length_reverse, ofL_len, ofL_len]
  by_cases h1 : 0 < x.length
  · by_cases h2 : 0 < y.length
    · rw [if_pos (by first | (grind) | omega), if_pos (by first | (grind) | omega), item_back h1, item_back h2, ofL_beq]
      simp [h1, h2]
    · rw [if_pos (by first | (grind) | omega), if_neg (by first | (grind) | omega)]
      simp [h2]
  · rw [if_neg (by first | (grind) | omega)]
    simp [h1]
theorem postT_eq {x y : List Nat} {j : Nat} (hj : 0 < j) : preT x.reverse y.reverse j =
    (if ((Txt.slice (ofL x) none (some (-(j : Int)))).length : Int) ≠ 0 then (if ((Txt.slice (ofL y) none (some (-(j : Int)))).length : Int) ≠ 0 then (Txt.item (ofL x) (-(j : Int) - 1) == Txt.item (ofL y) (-(j : Int) - 1)) else false) else false) := by
  rw [slice_to_neg x j (by first | (grind) | omega), slice_to_neg y j (by first | (grind) | omega), ofL_len, ofL_len, List.length_take, List.length_take]
  unfold preT
  rw [List.length_reverse, List.length_reverse]
  by_cases h1 : j < x.length
  · by_cases h2 : j < y.length
    · rw [if_pos (by first | (grind) | omega), if_pos (by first | (grind) | omega), item_back h1, item_back h2, ofL_beq]
      simp [h1, h2]
    · rw [if_pos (by first | (grind) | omega), if_neg (by first | (grind) | omega)]
      simp [h2]
  · rw [if_neg (by first | (grind) | omega)]
    simp [h1]
end Mine
namespace Mine
theorem cut_zero (a : List Nat) : cut a 0 = a := by simp [cut]
theorem cut_slice (a : List Nat) (j : Nat) (hj : 0 < j) : Txt.slice (ofL a) none (some (-(j : Int))) = ofL (cut a j) := slice_to_neg a j (by first | (grind) | omega)
theorem cut_le (a : List Nat) (j : Nat) : (cut a j).length ≤ a.length := by unfold cut; rw [List.length_take]; first | (grind) | omega
end Mine
namespace Mine
theorem small_row {m : Nat} (h : m ≤ 40) : Builtin.Range.small 2 (2 * ((m : Int) + 1)) 2 = true := by

  revert h
  revert m
  decide
theorem size_row {m : Nat} (h : m ≤ 40) : Builtin.Range.rangeSize 2 (2 * ((m : Int) + 1)) 2 = (m : Int) := by
  revert h
  revert m
  decide
end Mine
namespace Mine
theorem core_nil {a b : List Nat} {n : Int} (h : a.length = 0 ∨ b.length = 0) : core a b n = 2 * (((ofL a).length : Int) + (ofL b).length) := by
  rw [ofL_len, ofL_len]
  unfold core
  rw [if_pos]
  exact h.imp List.eq_nil_of_length_eq_zero List.eq_nil_of_length_eq_zero
def les (a b : List Nat) : List Nat := if b.length < a.length then b else a
def gre (a b : List Nat) : List Nat := if b.length < a.length then a else b
theorem core_two {a b : List Nat} {n : Int} (h1 : a.length ≠ 0) (h2 : b.length ≠ 0) : core a b n = core2 (les a b) (gre a b) n ∧ (les a b).length ≤ (gre a b).length ∧ (les a b).length ≠ 0 := by
  unfold core les gre
  rw [if_neg (by rintro (h | h) <;> simp_all)]
  split
  · exact ⟨rfl, by first | (grind) | omega, h2⟩
  · exact ⟨rfl, by first | (grind) | omega, h1⟩
theorem les_le {a b : List Nat} {k : Nat} (h1 : a.length ≤ k) (h2 : b.length ≤ k) : (les a b).length ≤ k ∧ (gre a b).length ≤ k := by
  unfold les gre
  split <;> exact ⟨by assumption, by assumption⟩
theorem core2_big {a b : List Nat} {n : Int} (h : n < (((ofL b).length : Int) - (ofL a).length) * 2) : core2 a b n = n + 1 := by
  rw [ofL_len, ofL_len] at h
  unfold core2
  rw [if_pos h]
theorem core2_go {a b : List Nat} {n : Int} (h : ¬ n < (((ofL b).length : Int) - (ofL a).length) * 2) : core2 a b n = outer a n b 0 (row0 a.length) 0 := by
  rw [ofL_len, ofL_len] at h
  unfold core2
  rw [if_neg h]
/-- the state of the outer loop -/
structure OutAt (a b : List Nat) (n : Int) (i : Nat) (us : List Value) (row : List Int) (res : Int) : Prop where
  iu : IntsAre us row
  ln : row.length = a.length
  vl : outer a n (b.drop i) (i : Int) row res = outer a n b 0 (row0 a.length) 0
/-- the state of the inner loop -/
structure InAt (a : List Nat) (ch : Nat) (R0 : List Int) (d0 : Int) (j : Nat) (us : List Value) (row : List Int) (d res mn : Int) : Prop where
  iu : IntsAre us row
  ln : row.length = a.length
  vl : (row.take j ++ (inner ch (a.drop j) (row.drop j) d res mn).1, (inner ch (a.drop j) (row.drop j) d res mn).2) = inner ch a R0 d0 d0 9223372036854775807
theorem inAt0 {a : List Nat} {ch : Nat} {us : List Value} {row : List Int} {d0 : Int} (h1 : IntsAre us row) (h2 : row.length = a.length) : InAt a ch row d0 0 us row d0 d0 9223372036854775807 :=
  ⟨h1, h2, by simp⟩
theorem inAt_end {a : List Nat} {ch : Nat} {R0 : List Int} {d0 : Int} {us : List Value} {row : List Int} {d res mn : Int} (h : InAt a ch R0 d0 a.length us row d res mn) : inner ch a R0 d0 d0 9223372036854775807 = (row, res, mn) := by
  have e := h.vl
  have l := h.ln
  rw [List.drop_length, ← l, List.drop_length, List.take_length] at e
  rw [← e]; simp [inner]
theorem inAt_go {a : List Nat} {ch : Nat} {R0 : List Int} {d0 : Int} {j : Nat} {us us' : List Value} {row : List Int} {d res mn : Int} (h : InAt a ch R0 d0 j us row d res mn) (hj : j < a.length)
    (hi : IntsAre us' (row.set j (pmin (pmin res (row.getD j 0) + 2) (d + scN ch (a.getD j 0))))) :
    InAt a ch R0 d0 (j + 1) us' (row.set j (pmin (pmin res (row.getD j 0) + 2) (d + scN ch (a.getD j 0)))) (row.getD j 0) (pmin (pmin res (row.getD j 0) + 2) (d + scN ch (a.getD j 0)))
      (if pmin (pmin res (row.getD j 0) + 2) (d + scN ch (a.getD j 0)) < mn then pmin (pmin res (row.getD j 0) + 2) (d + scN ch (a.getD j 0)) else mn) := by
  refine ⟨hi, by rw [List.length_set]; exact h.ln, ?_⟩
  have hr : j < row.length := by rw [h.ln]; exact hj
  have e := h.vl
  have hg : row.getD j 0 = row[j] := by simp [List.getD, hr]
  rw [List.drop_eq_getElem_cons hj, List.drop_eq_getElem_cons hr, inner] at e
  rw [getD_at hj, hg]
  generalize pmin (pmin res row[j] + 2) (d + scN ch a[j]) = x at e ⊢
  dsimp only at e
  rw [List.drop_set_of_lt (by first | (grind) | omega)]
  have ht : (row.set j x).take (j + 1) = row.take j ++ [x] := by
    rw [List.take_add_one, List.take_set, List.set_eq_of_length_le (by rw [List.length_take]; first | (grind) | omega)]
    simp [hr]
  rw [ht, List.append_assoc]
  exact e
end Mine
namespace Mine
theorem outAt_go {a b : List Nat} {n : Int} {i : Nat} {us us' : List Value} {row row' : List Int} {res res' mn : Int} (h : OutAt a b n i us row res) (hi : i < b.length)
    (hin : inner (b.getD i 0) a row ((i : Int) * 2) ((i : Int) * 2) 9223372036854775807 = (row', res', mn)) (hu : IntsAre us' row') (hl : row'.length = a.length) (hm : ¬ n < mn) : OutAt a b n (i + 1) us' row' res' := by
  refine ⟨hu, hl, ?_⟩
  have e := h.vl
  rw [List.drop_eq_getElem_cons hi, outer] at e
  rw [getD_at hi] at hin
  simp only [hin] at e
  rw [if_neg hm] at e
  exact e
theorem outAt_stop {a b : List Nat} {n : Int} {i : Nat} {us : List Value} {row row' : List Int} {res res' mn : Int} (h : OutAt a b n i us row res) (hi : i < b.length)
    (hin : inner (b.getD i 0) a row ((i : Int) * 2) ((i : Int) * 2) 9223372036854775807 = (row', res', mn)) (hm : n < mn) : outer a n b 0 (row0 a.length) 0 = n + 1 := by
  have e := h.vl
  rw [List.drop_eq_getElem_cons hi, outer] at e
  rw [getD_at hi] at hin
  simp only [hin] at e
  rw [if_pos hm] at e
  exact e.symm
theorem outAt_end {a b : List Nat} {n : Int} {us : List Value} {row : List Int} {res : Int} (h : OutAt a b n b.length us row res) : outer a n b 0 (row0 a.length) 0 = res := by
  have e := h.vl
  rw [List.drop_length, outer] at e
  exact e.symm
end Mine
end
section
open PySem PySem.W PyProof.Rows PySem.Calls PySem.Spec
namespace Mine
def ellA (ws : List (List Nat)) (G : List Nat) : Option (Nat × List (List Nat)) := match ws with
  | [] => none
  | f :: r => if f = [] then some (0, f :: r) else if f.isPrefixOf G = true then some (f.length, r) else none
def ellB (ws : List (List Nat)) (G : List Nat) : Option (Nat × List (List Nat)) := match ws.getLast? with
  | none => none
  | some f => if f = [] then some (G.length, ws) else if f.isSuffixOf G = true then some (G.length - f.length, ws.dropLast) else none
def ellC (G : List Nat) (ep : Nat) : List (List Nat) → Nat → Bool
  | [], _ => true
  | f :: r, sp => match findL G f sp ep with
    | none => false
    | some i => ellC G ep r (i + f.length)
def ellL (ws : List (List Nat)) (G : List Nat) : Bool := match ellA ws G with
  | none => false
  | some (sp, w1) => match ellB w1 G with
    | none => false
    | some (ep, w2) => if ep < sp then false else ellC G ep w2 sp
/-- the values of a list of texts -/
def valsL (l : List (List Nat × Tok)) : List Value := l.map fun p => .str (ofL p.1) p.2
theorem findL_le {x y : List Nat} {lo hi i : Nat} (h : findL x y lo hi = some i) : i + y.length ≤ hi := by
  have := List.find?_some h
  unfold hitL at this
  simp only [Bool.and_eq_true, decide_eq_true_eq] at this
  exact this.1
end Mine
namespace Mine
theorem ellA_nil {r : List (List Nat)} {G : List Nat} : ellA ([] :: r) G = some (0, [] :: r) := rfl
theorem ellA_yes {f G : List Nat} {r : List (List Nat)} (h : f.length ≠ 0) (hs : Txt.startswith (ofL G) (ofL f) = true) : ellA (f :: r) G = some (f.length, r) := by
  rw [starts_eq] at hs
  unfold ellA
  dsimp only
  rw [if_neg (by intro e; rw [e] at h; exact h rfl), if_pos hs]
theorem ellA_no {f G : List Nat} {r : List (List Nat)} (h : f.length ≠ 0) (hs : Txt.startswith (ofL G) (ofL f) = false) : ellL (f :: r) G = false := by
  rw [starts_eq] at hs
  unfold ellL ellA
  dsimp only
  rw [if_neg (by intro e; rw [e] at h; exact h rfl), if_neg (by rw [hs]; exact Bool.false_ne_true)]
theorem ellB_nil {ws : List (List Nat)} {G : List Nat} (h : ws.getLast? = some []) : ellB ws G = some (G.length, ws) := by
  unfold ellB; rw [h]; rfl
theorem ellB_yes {ws : List (List Nat)} {f G : List Nat} (hl : ws.getLast? = some f) (h : f.length ≠ 0) (hs : Txt.endswith (ofL G) (ofL f) = true) : ellB ws G = some (G.length - f.length, ws.dropLast) ∧ f.length ≤ G.length := by
  rw [ends_eq] at hs
  unfold ellB
  rw [hl]
  dsimp only
  rw [if_neg (by intro e; rw [e] at h; exact h rfl), if_pos hs]
  exact ⟨rfl, (List.isSuffixOf_iff_suffix.mp hs).length_le⟩
theorem ellB_no {ws w1 : List (List Nat)} {f G : List Nat} {sp : Nat} (ha : ellA ws G = some (sp, w1)) (hl : w1.getLast? = some f) (h : f.length ≠ 0) (hs : Txt.endswith (ofL G) (ofL f) = false) : ellL ws G = false := by
  rw [ends_eq] at hs
  unfold ellL
  rw [ha]
  unfold ellB
  dsimp only
  rw [hl]
  dsimp only
  rw [if_neg (by intro e; rw [e] at h; exact h rfl), if_neg (by rw [hs]; exact Bool.false_ne_true)]
theorem ellL_ab {ws w1 w2 : List (List Nat)} {G : List Nat} {sp ep : Nat} (ha : ellA ws G = some (sp, w1)) (hb : ellB w1 G = some (ep, w2)) : ellL ws G = if ep < sp then false else ellC G ep w2 sp := by
  unfold ellL
  rw [ha]
  dsimp only
  rw [hb]
theorem valsL_len (l : List (List Nat × Tok)) : (valsL l).length = l.length := by simp [valsL]
theorem valsL_tail (l : List (List Nat × Tok)) : (valsL l).eraseIdx 0 = valsL l.tail := by
  cases l <;> rfl
theorem erase_last {α : Type} : ∀ (l : List α), l.eraseIdx (l.length - 1) = l.dropLast
  | [] => rfl
  | [_] => rfl
  | a :: b :: r => by
    show (a :: b :: r).eraseIdx (r.length + 1) = a :: (b :: r).dropLast
    rw [List.eraseIdx_cons_succ]
    exact congrArg (a :: ·) (erase_last (b :: r))
theorem valsL_last (l : List (List Nat × Tok)) : (valsL l).eraseIdx (l.length - 1) = valsL l.dropLast := by
  rw [← valsL_len l, erase_last]
  unfold valsL
  rw [List.map_dropLast]
theorem valsL_getLast {l : List (List Nat × Tok)} {f : List Nat} {t : Tok} (h : l.getLast? = some (f, t)) : (valsL l).getLast? = some (.str (ofL f) t) := by
  unfold valsL
  rw [List.getLast?_map, h]; rfl
end Mine
namespace Mine
theorem seq_zero {n : Nat} (h : 0 < n) : seqIndex? 0 n = some 0 := by
  unfold seqIndex?
  have h1 : (decide (0 ≤ (0 : Int)) && decide ((0 : Int) < (n : Int))) = true := by simp; exact h
  simp only [show ¬ ((0 : Int) < 0) by decide, if_false]
  rw [if_pos h1]; rfl
theorem seq_last {n : Nat} (h : 0 < n) : seqIndex? (-1) n = some (n - 1) := by
  unfold seqIndex?
  have h1 : (decide (0 ≤ (-1 + (n : Int))) && decide ((-1 + (n : Int)) < (n : Int))) = true := by simp; first | (grind) | omega
  simp only [show ((-1 : Int) < 0) by decide, if_true]
  rw [if_pos h1]
  congr 1; first | (grind) | omega
theorem mem_dropLast' {α : Type} {l : List α} {a : α} (h : a ∈ l.dropLast) : a ∈ l := (List.dropLast_sublist l).subset h
theorem valsL_get {l : List (List Nat × Tok)} {i : Nat} {v : Value} (h : (valsL l)[i]? = some v) : ∃ f t, l[i]? = some (f, t) ∧ v = .str (ofL f) t := by
  unfold valsL at h
  rw [List.getElem?_map] at h
  cases e : l[i]? with
  | none => rw [e] at h; cases h
  | some p => rw [e] at h; cases h; exact ⟨p.1, p.2, rfl, rfl⟩
theorem ellC_go {G : List Nat} {ep sp sp0 i : Nat} {l : List (List Nat × Tok)} {f : List Nat} {t : Tok} (h : ellC G ep ((l.drop i).map (·.1)) sp = ellC G ep (l.map (·.1)) sp0) (hi : l[i]? = some (f, t)) :
    (match findL G f sp ep with | none => false | some k => ellC G ep ((l.drop (i + 1)).map (·.1)) (k + f.length)) = ellC G ep (l.map (·.1)) sp0 := by
  obtain ⟨hlt, he⟩ := List.getElem?_eq_some_iff.mp hi
  rw [List.drop_eq_getElem_cons hlt, he, List.map_cons, ellC] at h
  exact h
end Mine
end
section
open PySem PySem.W PyProof.Rows PySem.Calls PySem.Spec PyProof.V
namespace Mine
theorem fr_norm {h₀ h : Heap} {L : Addr} {m : Str → Option Value} (ps : List (Str × Value)) (F : Fr h₀ L h m) (hk : ∀ p ∈ ps, m p.1 = some p.2) : Fr h₀ L h (kstB m ps) := by
  have e : kstB m ps = m := by
    funext y
    exact kstB_eq hk fun _ => rfl
  rw [e]; exact F
theorem fr_get {γ : Type} {h₀ h : Heap} {L : Addr} {m : Str → Option Value} (ps : γ → List (Str × Value)) (F : Fr h₀ L h m) (hk : ∃ c, ∀ p ∈ ps c, m p.1 = some p.2) : ∃ c, Fr h₀ L h (kstB m (ps c)) := by
  obtain ⟨c, hc⟩ := hk
  exact ⟨c, fr_norm (ps c) F hc⟩
theorem fr_open {h₀ h : Heap} {L : Addr} {l : List (Str × Value)} (F : Fr h₀ L h (fun y => List.lookup y l)) : Fr h₀ L h (kstB (fun _ => none) l) := by
  have e : (fun y => List.lookup y l) = kstB (fun _ => none) l := by
    clear F
    funext y
    induction l with
    | nil => rfl
    | cons p r ih =>
      obtain ⟨a, v⟩ := p
      show List.lookup y ((a, v) :: r) = if y = a then some v else kstB (fun _ => none) r y
      rw [List.lookup_cons]
      by_cases h : y = a
      · subst h; simp
      · have : (y == a) = false := by simpa using h
        rw [this, if_neg h]; exact ih
  rw [← e]; exact F
def rngI (a st : Int) (n : Nat) : List Int := (List.range n).map fun (i : Nat) => a + (i : Int) * st
theorem rngI_len (a st : Int) (n : Nat) : (rngI a st n).length = n := by simp [rngI]
theorem rngI_ints {st : Int} : ∀ (vs : List Value) (a : Int) (n : Nat), vs.length = n → (∀ (j : Nat) (v : Value), vs[j]? = some v → ∃ t, v = .int (a + j * st) t) → IntsAre vs (rngI a st n)
  | [], a, n, e, _ => by
    subst e
    exact IntsAre.nil
  | v :: r, a, n, e, h => by
    subst e
    have hc : rngI a st (r.length + 1) = a :: rngI (a + st) st r.length := by
      unfold rngI
      rw [List.range_succ_eq_map, List.map_cons, List.map_map]
      congr 1
      · simp
      · apply List.map_congr_left
        intro i _
        simp only [Function.comp]
        rw [Int.natCast_succ, Int.add_mul]
        omega
    rw [List.length_cons, hc]
    obtain ⟨t, ht⟩ := h 0 v rfl
    have hv : v = .int a t := by rw [ht]; simp
    subst hv
    refine IntsAre.cons _ _ (rngI_ints r (a + st) r.length rfl fun j v hj => ?_)
    obtain ⟨t', ht'⟩ := h (j + 1) v hj
    refine ⟨t', ht'.trans ?_⟩
    congr 1
    rw [Int.natCast_succ, Int.add_mul]
    omega
theorem list_rng {prog : Program} {w : World} {A : Around} {E : Value → Shared → Prop} {s : Shared} {h₀ : Heap} {L r : Addr} {m : Str → Option Value} {news : List (Addr × Obj)} {a b st : Int} {t₀ u₀ v₀ : Tok} {n : Nat} {Q : Value → Shared → Prop}
    (hh : A.handled = none) (F : Fr h₀ L s.heap m) (N : News h₀ L s.heap news) (hr : IsRange s.heap r a b st t₀ u₀ v₀) (hsmall : Builtin.Range.small a b st = true) (hn : Builtin.Range.rangeSize a b st = (n : Int)) (hz : n ≤ 2 ^ 24)
    (h : ∀ D us c h' tk, Fr h₀ L h' m → News h₀ L h' ((D, listOf (List.toArray us) c) :: news) → (∀ p ∈ news, p.1 < D) → IntsAre us (rngI a st n) → Q (.ref D) { s with heap := h', toks := tk }) :
    wpAny (model prog w) A (call (.type "list") [.ref r]) Q E s := by
  refine call_list_range hh hr hsmall hn hz fun h' tk acc c hk hD hI => ?_
  have hD' : h'.get? s.heap.objs.size = some (listOf (List.toArray acc.toList) c) := by
    rw [Array.toArray_toList]
    exact hD
  exact h _ acc.toList c h' tk (F.keeps hk) (news_pushed F N hk hD' rfl) (fun p hp => Heap.lt_size (N p hp).1) (rngI_ints _ _ _ (by rw [Array.length_toList]; exact hI.1) fun j v hj => hI.2 j v (by rw [← hj, Array.getElem?_toList]))
section
variable {prog : Program} {w : World} {A : Around} {E : Value → Shared → Prop} {s : Shared} {env : Env} {h₀ : Heap} {x : Str} {body : List Stmt} {Q : Flow → Shared → Prop} {σ : Type}
/-- a turn's end: the next state stands -/
def TE (h₀ : Heap) (L : Addr) (Led : σ → List (Addr × Obj)) (ps : σ → List (Str × Value)) (own : List (Addr × Obj)) (P : σ → Prop) (s₁ : Shared) (Q : Flow → Shared → Prop) (f : Flow) (s₂ : Shared) : Prop :=
  match f with
  | .ret v => Q (.ret v) s₂
  | .brk => Q .next s₂
  | _ => ∃ (c' : σ) (h' : Heap) (tk : Nat) (m' : Str → Option Value) (news' : List (Addr × Obj)), s₂ = { s₁ with heap := h', toks := tk } ∧ Fr h₀ L h' m' ∧ News h₀ L h' news' ∧ (∀ p ∈ Led c', p ∈ news') ∧ (∀ p ∈ own, p ∈ news') ∧ (∀ p ∈ ps c', m' p.1 = some p.2) ∧ P c'
theorem te_next {L : Addr} {Led : σ → List (Addr × Obj)} {ps : σ → List (Str × Value)} {own : List (Addr × Obj)} {P : σ → Prop} {s₁ : Shared} {h' : Heap} {tk : Nat} {m' : Str → Option Value} {news' : List (Addr × Obj)} (c' : σ)
    (hp : P c') (F : Fr h₀ L h' m') (N : News h₀ L h' news') (hk : ∀ p ∈ ps c', m' p.1 = some p.2) (hl : ∀ p ∈ Led c', p ∈ news') (ho : ∀ p ∈ own, p ∈ news') : TE h₀ L Led ps own P s₁ Q .next { s₁ with heap := h', toks := tk } :=
  ⟨c', h', tk, m', news', rfl, F, N, hl, ho, hk, hp⟩
theorem wh {test : PySem.Expr} {pos : Pos} {L : Addr} {m₀ : Str → Option Value} (Led : σ → List (Addr × Obj)) (ps : σ → List (Str × Value)) (P : σ → Prop) (T : σ → Bool) (μ : σ → Nat) (c₀ : σ)
    (F : Fr h₀ L s.heap m₀) (N : News h₀ L s.heap (Led c₀)) (hk : ∀ p ∈ ps c₀, m₀ p.1 = some p.2) (hp : P c₀)
    (htest : ∀ (c : σ) u h tk, P c → Fr h₀ L h (kstB u (ps c)) → News h₀ L h (Led c) →
      wpAny (model prog w) A (isTrue test env (eval test env)) (fun b s₂ => b = T c ∧ ∃ h' tk', s₂ = { s with heap := h', toks := tk' } ∧ Fr h₀ L h' (kstB u (ps c)) ∧ News h₀ L h' (Led c)) E { s with heap := h, toks := tk })
    (turn : ∀ (c : σ) u h tk, P c → T c = true → Fr h₀ L h (kstB u (ps c)) → News h₀ L h (Led c) → wpAny (model prog w) A (execs body env) (TE h₀ L Led ps [] (fun c' => P c' ∧ μ c' < μ c) s Q) E { s with heap := h, toks := tk })
    (done : ∀ (c : σ) u h tk, P c → T c = false → Fr h₀ L h (kstB u (ps c)) → News h₀ L h (Led c) → Q .next { s with heap := h, toks := tk })
    (hE : PassesOwn (model prog w) A env E := by passes_own) :
    wpAny (model prog w) A (exec (.While test body [] pos) env) Q E s := by
  refine While_inv2 (fun n m nx => ∃ c : σ, nx = Led c ∧ μ c = n ∧ (∀ p ∈ ps c, m p.1 = some p.2) ∧ P c) F N ⟨c₀, rfl, rfl, hk, hp⟩ ?_ hE
  rintro n m₁ nx h tk F₁ N₁ ⟨c, rfl, rfl, h1, hp'⟩
  have F2 := fr_norm (ps c) F₁ h1
  refine wpAny_mono (htest c m₁ h tk hp' F2 N₁) (fun b s₂ p => ?_) fun _ _ x => x
  obtain ⟨rfl, h', tk', rfl, F3, N3⟩ := p
  cases hT : T c with
  | false => simpa using done c m₁ h' tk' hp' hT F3 N3
  | true =>
    simp only [if_true]
    refine wpAny_mono (turn c m₁ h' tk' hp' hT F3 N3) (fun f s₃ q => ?_) fun _ _ x => x
    cases f with
    | ret v => exact q
    | brk => exact q
    | next =>
      obtain ⟨c', h', tk', m', news', rfl, F', N', hn, _, hk9, hp9, hm9⟩ := q
      exact ⟨h', tk', m', Led c', μ c', rfl, F', fun p hp => N' p (hn p hp), hm9, c', rfl, rfl, hk9, hp9⟩
    | cont =>
      obtain ⟨c', h', tk', m', news', rfl, F', N', hn, _, hk9, hp9, hm9⟩ := q
      exact ⟨h', tk', m', Led c', μ c', rfl, F', fun p hp => N' p (hn p hp), hm9, c', rfl, rfl, hk9, hp9⟩

theorem rng {r : Addr} {a₀ b₀ st : Int} {t₀ u₀ v₀ : Tok} {n : Nat} {m₀ : Str → Option Value} (Led : σ → List (Addr × Obj)) (ps : σ → List (Str × Value)) (P : Nat → σ → Prop) (c₀ : σ)
    (hh : A.handled = none) (hr : IsRange s.heap r a₀ b₀ st t₀ u₀ v₀) (hsmall : Builtin.Range.small a₀ b₀ st = true) (hn : Builtin.Range.rangeSize a₀ b₀ st = (n : Int)) (F : Fr h₀ env.locals s.heap m₀) (N : News h₀ env.locals s.heap (Led c₀)) (hk : ∀ p ∈ ps c₀, m₀ p.1 = some p.2) (hp : P 0 c₀)
    (hadr : ∀ i c, P i c → (Led c).map (·.1) = (Led c₀).map (·.1))
    (turn : ∀ (i : Nat) (c : σ) (u : Str → Option Value) t h tk own, i < n → OwnOff own ((Led c₀).map (·.1)) → P i c →
      Fr h₀ env.locals h (fun y => if y = x then some (.int (a₀ + (i : Int) * st) t) else kstB u (ps c) y) → News h₀ env.locals h (Led c ++ own) →
      wpAny (model prog w) A (execs body env) (TE h₀ env.locals Led ps own (P (i + 1)) s Q) E { s with heap := h, toks := tk })
    (done : ∀ (c : σ) u h tk, P n c → Fr h₀ env.locals h (kstB u (ps c)) → News h₀ env.locals h (Led c) → Q .next { s with heap := h, toks := tk }) :
    wpAny (model prog w) A (pyIter (.ref r)) (fun it s₂ => LoopAtV prog w A h₀ env x body Q E it s₂) E s := by
  refine wpAny_pyIter_range hr hsmall ?_
  have W : Walks prog w A s.heap.objs.size [s.heap.objs.size] [s.heap.objs.size] n (fun i v => i < n ∧ ∃ t, v = .int (a₀ + i * st) t)
      (fun i h => IsRangeIter h s.heap.objs.size (a₀ + (i : Nat) * st) ((n : Int) - (i : Nat)) st) := (Walks.range hh _ a₀ st n).bound
  refine loop_invN (fun i m nx => ∃ c : σ, nx = Led c ∧ (∀ p ∈ ps c, m p.1 = some p.2) ∧ P i c) W ?_ ?_ ?_ ?_ (by show IsRangeIter _ _ _ _ _; rw [hn]; simpa using Heap.get?_push_size _ rfl) (F.push _) (fun p hp => ⟨Heap.get?_push_of_some _ (N p hp).1, (N p hp).2⟩) ⟨c₀, rfl, hk, hp⟩ ?_ ?_
  · intro hm
    exact absurd F.ns.lt ((List.mem_singleton.mp hm) ▸ Nat.lt_irrefl _)
  · intro b hb
    rw [List.mem_singleton.mp hb]
    exact next_is_new F
  · intro p hp hI
    exact absurd (Heap.lt_size (N p hp).1) ((List.mem_singleton.mp hI) ▸ Nat.lt_irrefl _)
  · intro p hp hI
    exact absurd (Heap.lt_size (N p hp).1) ((List.mem_singleton.mp hI) ▸ Nat.lt_irrefl _)
  · rintro i v m₁ nx h tk own hi ⟨_, t, rfl⟩ _ hoff ⟨c, rfl, h1, hp'⟩ F₁ N₁
    have F2 : Fr h₀ env.locals h (fun y => if y = x then some (.int (a₀ + (i : Int) * st) t) else kstB m₁ (ps c) y) := by
      have e : kstB m₁ (ps c) = m₁ := by
        funext y
        exact kstB_eq h1 fun _ => rfl
      rw [e]; exact F₁
    refine wpAny_mono (turn i c m₁ t h tk own hi hoff hp' F2 N₁) (fun f s₂ q => ?_) fun _ _ x => x
    cases f with
    | ret v => exact q
    | brk => exact q
    | next =>
      obtain ⟨c', h', tk', m', news', rfl, F', N', hl, ho, hk9, hp9⟩ := q
      exact ⟨h', tk', m', news', Led c', rfl, F', N', hl, ho, hadr _ _ hp9, c', rfl, hk9, hp9⟩
    | cont =>
      obtain ⟨c', h', tk', m', news', rfl, F', N', hl, ho, hk9, hp9⟩ := q
      exact ⟨h', tk', m', news', Led c', rfl, F', N', hl, ho, hadr _ _ hp9, c', rfl, hk9, hp9⟩
  · rintro m₁ nx h tk ⟨c, rfl, h1, hp'⟩ F₁ N₁
    exact done c m₁ h tk hp' (fr_norm (ps c) F₁ h1) N₁
/-- a statement's end -/
def SE (h₀ : Heap) (L : Addr) (news : List (Addr × Obj)) (C : (Str → Option Value) → Prop) (s : Shared) (f : Flow) (s' : Shared) : Prop :=
  f = .next ∧ ∃ (h' : Heap) (tk' : Nat) (m' : Str → Option Value), s' = { s with heap := h', toks := tk' } ∧ Fr h₀ L h' m' ∧ News h₀ L h' news ∧ C m'
theorem se_intro {L : Addr} {news : List (Addr × Obj)} {C : (Str → Option Value) → Prop} {h' : Heap} {tk' : Nat} {m' : Str → Option Value} (F : Fr h₀ L h' m') (N : News h₀ L h' news) (hC : C m') : SE h₀ L news C s .next { s with heap := h', toks := tk' } :=
  ⟨rfl, h', tk', m', rfl, F, N, hC⟩
theorem cut_se {L : Addr} {news : List (Addr × Obj)} {M : Model} {t : Sem Flow} {m : Str → Option Value} (_F : Fr h₀ L s.heap m) (_N : News h₀ L s.heap news) (C : (Str → Option Value) → Prop) (h : wpAny M A t (SE h₀ L news C s) E s) (k : ∀ h' tk' m', Fr h₀ L h' m' → News h₀ L h' news → C m' → Q .next { s with heap := h', toks := tk' }) : wpAny M A t Q E s := by
  refine wpAny_mono h ?_ fun _ _ x => x
  rintro f s' ⟨rfl, h', tk', m', rfl, F, N, hC⟩
  exact k h' tk' m' F N hC
end
end Mine
end
section
open PySem PySem.W PyProof.Rows PySem.Calls PySem.Spec PyProof.V
namespace Mine
section
variable {prog : Program} {w : World} {A : Around} {E : Value → Shared → Prop} {s : Shared} {env : Env} {h₀ : Heap} {x : Str} {body : List Stmt} {Q : Flow → Shared → Prop} {σ : Type}
/-- a statement's end, its ways joined; a return goes on as it is -/
def CE (h₀ : Heap) (L : Addr) (Led : σ → List (Addr × Obj)) (ps : σ → List (Str × Value)) (P : σ → Prop) (s₁ : Shared) (Q : Flow → Shared → Prop) (f : Flow) (s₂ : Shared) : Prop :=
  match f with
  | .next => ∃ (c' : σ) (h' : Heap) (tk : Nat) (m' : Str → Option Value) (news' : List (Addr × Obj)), s₂ = { s₁ with heap := h', toks := tk } ∧ Fr h₀ L h' m' ∧ News h₀ L h' news' ∧ (∀ p ∈ Led c', p ∈ news') ∧ (∀ p ∈ ps c', m' p.1 = some p.2) ∧ P c'
  | f => Q f s₂
theorem ce_next {L : Addr} {Led : σ → List (Addr × Obj)} {ps : σ → List (Str × Value)} {P : σ → Prop} {s₁ : Shared} {h' : Heap} {tk : Nat} {m' : Str → Option Value} {news' : List (Addr × Obj)} (c' : σ)
    (hp : P c') (F : Fr h₀ L h' m') (N : News h₀ L h' news') (hk : ∀ p ∈ ps c', m' p.1 = some p.2) (hl : ∀ p ∈ Led c', p ∈ news') : CE h₀ L Led ps P s₁ Q .next { s₁ with heap := h', toks := tk } :=
  ⟨c', h', tk, m', news', rfl, F, N, hl, hk, hp⟩
theorem cut_ce {L : Addr} {M : Model} {t : Sem Flow} {m : Str → Option Value} {news : List (Addr × Obj)} (_F : Fr h₀ L s.heap m) (_N : News h₀ L s.heap news) (Led : σ → List (Addr × Obj)) (ps : σ → List (Str × Value)) (P : σ → Prop)
    (h : wpAny M A t (CE h₀ L Led ps P s Q) E s) (k : ∀ c' h' tk' u, P c' → Fr h₀ L h' (kstB u (ps c')) → News h₀ L h' (Led c') → Q .next { s with heap := h', toks := tk' }) : wpAny M A t Q E s := by
  refine wpAny_mono h ?_ fun _ _ x => x
  intro f s' hc
  cases f with
  | next =>
    obtain ⟨c', h', tk', m', news', rfl, F, N, hl, hk, hp⟩ := hc
    exact k c' h' tk' m' hp (fr_norm _ F hk) fun p hp => N p (hl p hp)
  | ret v => exact hc
  | brk => exact hc
  | cont => exact hc

theorem lst {l : Addr} {vs : List Value} {nn : Nat} {m₀ : Str → Option Value} (Led : σ → List (Addr × Obj)) (ps : σ → List (Str × Value)) (P : Nat → σ → Prop) (c₀ : σ)
    (hh : A.handled = none) (hl : ∀ c, (l, listOf vs.toArray nn) ∈ Led c) (F : Fr h₀ env.locals s.heap m₀) (N : News h₀ env.locals s.heap (Led c₀)) (hk : ∀ p ∈ ps c₀, m₀ p.1 = some p.2) (hp : P 0 c₀)
    (hadr : ∀ i c, P i c → (Led c).map (·.1) = (Led c₀).map (·.1))
    (turn : ∀ (i : Nat) (c : σ) (u : Str → Option Value) (v : Value) h tk own, vs[i]? = some v → OwnOff own ((Led c₀).map (·.1)) → P i c →
      Fr h₀ env.locals h (fun y => if y = x then some v else kstB u (ps c) y) → News h₀ env.locals h (Led c ++ own) →
      wpAny (model prog w) A (execs body env) (TE h₀ env.locals Led ps own (P (i + 1)) s Q) E { s with heap := h, toks := tk })
    (done : ∀ (c : σ) u h tk, P vs.length c → Fr h₀ env.locals h (kstB u (ps c)) → News h₀ env.locals h (Led c) → Q .next { s with heap := h, toks := tk }) :
    wpAny (model prog w) A (pyIter (.ref l)) (fun it s₂ => LoopAtV prog w A h₀ env x body Q E it s₂) E s := by
  have hol : s.heap.get? l = some (listOf vs.toArray nn) := (N _ (hl c₀)).1
  have hls : s.heap.IsList l vs.toArray := ⟨_, hol, rfl, nn, rfl⟩
  have hne : l ≠ s.heap.objs.size := Nat.ne_of_lt (Heap.lt_size hol)
  refine wpAny_pyIter_list hls ?_
  have W := Walks.list (prog := prog) (w := w) hh s.heap.objs.size l hne vs.toArray
  have hlen : vs.toArray.size = vs.length := by simp
  rw [hlen] at W
  refine ⟨_, _, _, vs.length, _, _, m₀, Led c₀, (fun i m nx => ∃ c : σ, nx = Led c ∧ (∀ p ∈ ps c, m p.1 = some p.2) ∧ P i c), rfl, W, ?_, ?_, ?_, ⟨⟨_, Heap.get?_push_size _ rfl, rfl, rfl⟩, hls.at fun o e => Heap.get?_push_of_some _ e⟩, F.push _, (fun p hp => ⟨Heap.get?_push_of_some _ (N p hp).1, (N p hp).2⟩), ⟨c₀, rfl, hk, hp⟩, ?_, ?_⟩
  · intro hm
    rcases List.mem_cons.mp hm with e | hm
    · exact absurd F.ns.lt (e ▸ Nat.lt_irrefl _)
    · exact (N _ (hl c₀)).2.1 ((List.mem_singleton.mp hm).symm)
  · intro b hb
    rw [List.mem_singleton.mp hb]
    exact next_is_new F
  · intro p hp hI
    exact absurd (Heap.lt_size (N p hp).1) ((List.mem_singleton.mp hI) ▸ Nat.lt_irrefl _)
  · rintro i v m₁ news₁ s₁ own ⟨hh', tk', rfl⟩ hin hP ⟨c, rfl, h1, hp'⟩ hoff hown hget hfp _ F₁ N₁
    have hsep : OwnOff (own.filter fun p => decide (p.1 = s.heap.objs.size)) ((Led c₀).map (·.1)) := by
      intro p hp b hb e
      obtain ⟨q, hq, rfl⟩ := List.mem_map.mp hb
      have h1 : p.1 = s.heap.objs.size := by simpa using (List.mem_filter.mp hp).2
      exact absurd (Heap.lt_size (N q hq).1) (by rw [← e, h1]; exact Nat.lt_irrefl _)
    have hv : vs[i]? = some v := by simpa using hP
    have N₂ : News h₀ env.locals hh' (Led c ++ own.filter fun p => decide (p.1 = s.heap.objs.size)) := fun p hp => N₁ p ((List.mem_append.mp hp).elim (fun h => List.mem_append.mpr (.inr h)) fun h => List.mem_append.mpr (.inl ((List.mem_filter.mp h).1)))
    have hlo : hh'.get? l = some (listOf vs.toArray nn) := (N₁ _ (List.mem_append.mpr (.inr (hl c)))).1
    have F2 : Fr h₀ env.locals hh' (fun y => if y = x then some v else kstB m₁ (ps c) y) := by
      have e : kstB m₁ (ps c) = m₁ := by
        funext y
        exact kstB_eq h1 fun _ => rfl
      rw [e]; exact F₁
    refine wpAny_mono (turn i c m₁ v hh' tk' _ hv hsep hp' F2 N₂) (fun f s₂ p => ?_) fun _ _ e => e
    have fin : (∃ (c' : σ) (h' : Heap) (tk : Nat) (m' : Str → Option Value) (news' : List (Addr × Obj)), s₂ = { s with heap := h', toks := tk } ∧ Fr h₀ env.locals h' m' ∧ News h₀ env.locals h' news' ∧ (∀ p ∈ Led c', p ∈ news') ∧ (∀ p ∈ own.filter fun p => decide (p.1 = s.heap.objs.size), p ∈ news') ∧ (∀ p ∈ ps c', m' p.1 = some p.2) ∧ P (i + 1) c') →
        LoopStepU h₀ env.locals [s.heap.objs.size] own (fun m nx => ∃ c : σ, nx = Led c ∧ (∀ p ∈ ps c, m p.1 = some p.2) ∧ P (i + 1) c) { s with heap := hh', toks := tk' } .next s₂ := by
      rintro ⟨c', h', tk, m', news', rfl, F', N', hn, ho, hk9, hp9⟩
      refine ⟨rfl, h', tk, m', Led c', rfl, F', fun p hp => ?_, fun p hp => ?_, c', rfl, hk9, hp9⟩
      · rcases List.mem_append.mp hp with h | h
        · by_cases hI : p.1 = s.heap.objs.size
          · exact N' p (ho p (List.mem_filter.mpr ⟨h, by simpa using hI⟩))
          · have h1 : p.1 = l := by
              rcases List.mem_cons.mp (hown p h) with h2 | h2
              · exact absurd h2 hI
              · exact List.mem_singleton.mp h2
            have h2 : hh'.get? p.1 = some p.2 := hget p h
            rw [h1, hlo] at h2
            have h3 : p = (l, listOf vs.toArray nn) := Prod.ext h1 (Option.some.inj h2).symm
            rw [h3]
            exact N' _ (hn _ (hl c'))
        · exact N' p (hn p h)
      · have h1 : p.1 ∈ (Led c').map (·.1) := List.mem_map.mpr ⟨p, hp, rfl⟩
        rw [hadr _ _ hp9] at h1
        obtain ⟨q, hq, e⟩ := List.mem_map.mp h1
        intro hI
        exact absurd (Heap.lt_size (N q hq).1) (by rw [e, List.mem_singleton.mp hI]; exact Nat.lt_irrefl _)
    cases f with
    | ret v => exact .ret p
    | brk => exact .brk p
    | next => exact .next (fin p)
    | cont => exact .cont (fin p)
  · rintro h' tk m' news' F' N' _ ⟨c, rfl, h1, hp'⟩
    exact done c m' h' tk hp' (fr_norm (ps c) F' h1) N'
end
section
variable {prog : Program} {w : World} {A : Around} {E : Value → Shared → Prop} {s : Shared} {h₀ : Heap} {L D : Addr} {m : Str → Option Value} {news rest : List (Addr × Obj)} {vs : List Value} {n : Nat}
theorem item_at {value slice : PySem.Expr} {k : Int} {u : Tok} {v : Value} {Q : Value → Shared → Prop} (N : News h₀ L s.heap news) (hm : (D, listOf vs.toArray n) ∈ news) (h0 : 0 ≤ k) (hfit : k < 2 ^ 63) (hx : vs[k.toNat]? = some v) (h : Q v s)
    (hs : subscripted slice false (.ref D) (.int k u) = operate [.ref D, .int k u] (getItem (.ref D) (.int k u)) := by with_unfolding_all rfl) :
    wpAny (model prog w) A (subscriptTail value slice (.ref D) (.int k u)) Q E s :=
  have hl : s.heap.IsList D vs.toArray := PySem.IsL.isList (n := n) (N _ hm).1
  tail_any hl.typeIs slot_list_getitem.lookup (wpAny_getItem_list hl h0 hfit (by simpa using hx) h) hs
theorem item_last {value slice : PySem.Expr} {u : Tok} {v : Value} {Q : Value → Shared → Prop} (N : News h₀ L s.heap news) (hm : (D, listOf vs.toArray n) ∈ news) (hx : vs.getLast? = some v) (h : Q v s)
    (hs : subscripted slice false (.ref D) (.int (-1) u) = operate [.ref D, .int (-1) u] (getItem (.ref D) (.int (-1) u)) := by with_unfolding_all rfl) :
    wpAny (model prog w) A (subscriptTail value slice (.ref D) (.int (-1) u)) Q E s := by
  have hl : s.heap.IsList D vs.toArray := PySem.IsL.isList (n := n) (N _ hm).1
  have hne : vs ≠ [] := by intro e; rw [e] at hx; cases hx
  have hp : 0 < vs.length := List.length_pos_iff.mpr hne
  refine tail_any hl.typeIs slot_list_getitem.lookup (wpAny_getItem_list_neg hl (by decide) (by simp; omega) (by decide) ?_ h) hs
  have e : ((-1 : Int) + (vs.toArray.size : Int)).toNat = vs.length - 1 := by simp; omega
  rw [e]
  rw [List.getLast?_eq_getElem?] at hx
  simpa using hx
theorem del_at {k : Int} {j : Nat} {u : Tok} {Q : Unit → Shared → Prop} (F : Fr h₀ L s.heap m) (N : News h₀ L s.heap ((D, listOf vs.toArray n) :: rest)) (off : ∀ p ∈ rest, p.1 ≠ D) (hfit : Builtin.List.listFitsIndex k = true) (hk : seqIndex? k vs.length = some j) (hz : vs.length ≤ 1000)
    (h : ∀ h' n', Fr h₀ L h' m → News h₀ L h' ((D, listOf (vs.eraseIdx j).toArray n') :: rest) → Q () { s with heap := h' }) : wpAny (model prog w) A (delItem (.ref D) (.int k u)) Q E s := by
  have z := N (D, listOf vs.toArray n) (.head _)
  have hz2 : vs.toArray.size ≤ sizeLine := by rw [List.size_toArray, sizeLine_eq]; omega
  refine PySem.P.delItem_list (n := n) z.1 hfit (by rw [List.size_toArray]; exact hk) (h _ _ (F.change (Heap.SameBut.update ..) z.2.1 z.2.2) (ki_turn (pre := []) _ N (fun _ hp => nomatch hp) off ?_ rfl)) hz2
  apply Array.toList_inj.mp
  simp
end
end Mine
end
section
open PySem PySem.W PyProof.Rows PySem.Calls PySem.Spec PyProof.V
namespace Mine
theorem strValues_eq (l : List (Str × Tok)) : strValues l = valsL (l.map fun p => (p.1.cps.toList, p.2)) := by
  unfold strValues valsL
  rw [List.map_map]
  apply List.map_congr_left
  intro p _
  show Value.str p.1 p.2 = Value.str (ofL p.1.cps.toList) p.2
  rw [ofL_cps]
theorem call_split {prog : Program} {w : World} {A : Around} {E : Value → Shared → Prop} {s : Shared} {h₀ : Heap} {L : Addr} {m : Str → Option Value} {news : List (Addr × Obj)} {W : List Nat} {y : Str} {t u : Tok} {ps : List (List Nat)} {Q : Value → Shared → Prop}
    (hF : Fr h₀ L s.heap m) (hN : News h₀ L s.heap news) (hs : Txt.split (ofL W) y = ps.map ofL) (hy : (y.length == 0) = false) (hz : W.length ≤ 1000)
    (h : ∀ D l h' k, l.map (·.1) = ps → Fr h₀ L h' m → News h₀ L h' ((D, listOf (valsL l).toArray 0) :: news) → (∀ p ∈ news, p.1 < D) → Q (.ref D) { s with heap := h', toks := k }) :
    wpAny (model prog w) A (call (.builtin "str.split") [.str (ofL W) t, .str y u]) Q E s := by
  refine splitN1 hF hN hy (fun l h' k e F N => ?_) (by rw [ofL_len, sizeLine_eq]; omega)
  rw [strValues_eq] at N
  refine h _ (l.map fun p => (p.1.cps.toList, p.2)) h' k ?_ F N (fun p hp => Heap.lt_size (hN p hp).1)
  rw [hs] at e
  rw [List.map_map]
  have e2 : (l.map (·.1)).map (fun z : Str => z.cps.toList) = (ps.map ofL).map (fun z : Str => z.cps.toList) := by rw [e]
  rw [List.map_map, List.map_map] at e2
  have e3 : ps.map ((fun z : Str => z.cps.toList) ∘ ofL) = ps := by
    have : ((fun z : Str => z.cps.toList) ∘ ofL) = id := by funext z; simp [ofL]
    rw [this, List.map_id]
  rw [e3] at e2
  exact e2
theorem len_at {prog : Program} {w : World} {A : Around} {E : Value → Shared → Prop} {s : Shared} {h₀ : Heap} {L D : Addr} {news : List (Addr × Obj)} {vs : List Value} {n : Nat} {Q : Value → Shared → Prop}
    (N : News h₀ L s.heap news) (hm : (D, listOf vs.toArray n) ∈ news) (hz : vs.length ≤ 1000)
    (h : Q (.int (vs.length : Nat) (s.toks + 1)) { s with toks := s.toks + 1 + 1 }) : wpAny (model prog w) A (call (.builtin "len") [.ref D]) Q E s := by
  have hl : s.heap.IsList D vs.toArray := PySem.IsL.isList (n := n) (N _ hm).1
  exact Calls.call_len_list hl (by rw [List.size_toArray]; omega) (by rw [List.size_toArray]; exact h)
end Mine
end
section
open PySem PySem.W PyProof.Rows PySem.Calls PySem.Spec
namespace Mine
set_option maxRecDepth 100000 in
set_option maxHeartbeats 8000000 in
theorem sub_ct (w : World) (p : Program) (loose : List Str) (mean : ExcName → Option Value) (mg mb : Str → Option Value) (news : CbLed) (x : CbStr) (t : CbTok) (y : CbStr) (t' : CbTok) (hx : x.length ≤ 1000) (hy : y.length ≤ 1000) : Ct w p loose mean mg mb 3 28 news [.str x t, .str y t'] (fun t => .int (sc x y) t) := by
  unfold Ct Ret P0
  k_fill
  intros
  rename_i hret
  refine wpAny_call ?_
  k_dflt cell_enter
  k_steps
  all_goals (refine cb_retI (x := sc x y) hret (by simp [sc, *]) (by k_asm) (by k_asm))
end Mine
end
section
open PySem PySem.W PyProof.Rows PySem.Calls PySem.Spec
namespace Mine
namespace lev_rows_e
def St9 (w : World) (p : Program) (loose : List Str) (mean : ExcName → Option Value) (mg : Str → Option Value) (mb : Str → Option Value) (news : CbLed) (a1 : List Nat) (b1 : List Nat) (t1 : Tok) (t2 : Tok) (n : Int) (tn : CbTok) (dp : Nat) (un : Nat) (gd : Option (List Code)) (outr : List Env) (A₀ : Around) (base : Heap) (h₀ : Heap) (L : Addr) (u : Str → Option Value) (s : Shared) (Q : Flow → Shared → Prop) (R : Result → Shared → Prop) : Prop :=
  (a1.length ≤ 40) → (b1.length ≤ 40) → (a1.length ≠ 0) → (0 ≤ n) → (n ≤ 1000) → PieB w p loose mean mg mb 6 (Str.ofString "_levenshtein_distance") levS 35 (.ref 34) (levB.drop 13)
      (fun u => ∀ p ∈ [(Str.ofString "max_cost", Value.int n tn), (Str.ofString "b", Value.str (ofL b1) t2), (Str.ofString "a", Value.str (ofL a1) t1)], u p.1 = some p.2) news
      (fun f _ news' => ∃ t, f = .ret (.int (outer a1 n b1 0 (row0 a1.length) 0) t) ∧ news' = news) dp un gd outr A₀ base h₀ L u s Q R
abbrev Vt9 : Type := World × Program × (List Str) × (ExcName → Option Value) × (Str → Option Value) × (Str → Option Value) × CbLed × (List Nat) × (List Nat) × Tok × Tok × Int × CbTok × Nat × Nat × (Option (List Code)) × (List Env) × Around × Heap × Heap × Addr × (Str → Option Value) × Shared × (Flow → Shared → Prop) × (Result → Shared → Prop)
theorem ne9 : Nonempty Vt9 := by
  obtain ⟨w0⟩ := neW
  exact ⟨w0, default, [], (fun _ => none), (fun _ => none), (fun _ => none), [], [], [], 0, 0, 0, 0, 0, 0, none, [], callerA, {}, {}, 0, (fun _ => none), {}, (fun _ _ => True), (fun _ _ => True)⟩
def Sp9 (t : Vt9) : Prop := St9 (t.1) (t.2.1) (t.2.2.1) (t.2.2.2.1) (t.2.2.2.2.1) (t.2.2.2.2.2.1) (t.2.2.2.2.2.2.1) (t.2.2.2.2.2.2.2.1) (t.2.2.2.2.2.2.2.2.1) (t.2.2.2.2.2.2.2.2.2.1) (t.2.2.2.2.2.2.2.2.2.2.1) (t.2.2.2.2.2.2.2.2.2.2.2.1) (t.2.2.2.2.2.2.2.2.2.2.2.2.1) (t.2.2.2.2.2.2.2.2.2.2.2.2.2.1) (t.2.2.2.2.2.2.2.2.2.2.2.2.2.2.1) (t.2.2.2.2.2.2.2.2.2.2.2.2.2.2.2.1) (t.2.2.2.2.2.2.2.2.2.2.2.2.2.2.2.2.1) (t.2.2.2.2.2.2.2.2.2.2.2.2.2.2.2.2.2.1) (t.2.2.2.2.2.2.2.2.2.2.2.2.2.2.2.2.2.2.1) (t.2.2.2.2.2.2.2.2.2.2.2.2.2.2.2.2.2.2.2.1) (t.2.2.2.2.2.2.2.2.2.2.2.2.2.2.2.2.2.2.2.2.1) (t.2.2.2.2.2.2.2.2.2.2.2.2.2.2.2.2.2.2.2.2.2.1) (t.2.2.2.2.2.2.2.2.2.2.2.2.2.2.2.2.2.2.2.2.2.2.1) (t.2.2.2.2.2.2.2.2.2.2.2.2.2.2.2.2.2.2.2.2.2.2.2.1) (t.2.2.2.2.2.2.2.2.2.2.2.2.2.2.2.2.2.2.2.2.2.2.2.2)
noncomputable def c9 : Vt9 := @Classical.epsilon Vt9 ne9 fun t => ¬ Sp9 t
@[irreducible] noncomputable def w : World := c9.1
@[irreducible] noncomputable def p : Program := c9.2.1
@[irreducible] noncomputable def loose : List Str := c9.2.2.1
@[irreducible] noncomputable def mean : ExcName → Option Value := c9.2.2.2.1
@[irreducible] noncomputable def mg : Str → Option Value := c9.2.2.2.2.1
@[irreducible] noncomputable def mb : Str → Option Value := c9.2.2.2.2.2.1
@[irreducible] noncomputable def news : CbLed := c9.2.2.2.2.2.2.1
@[irreducible] noncomputable def a1 : List Nat := c9.2.2.2.2.2.2.2.1
@[irreducible] noncomputable def b1 : List Nat := c9.2.2.2.2.2.2.2.2.1
@[irreducible] noncomputable def t1 : Tok := c9.2.2.2.2.2.2.2.2.2.1
@[irreducible] noncomputable def t2 : Tok := c9.2.2.2.2.2.2.2.2.2.2.1
@[irreducible] noncomputable def n : Int := c9.2.2.2.2.2.2.2.2.2.2.2.1
@[irreducible] noncomputable def tn : CbTok := c9.2.2.2.2.2.2.2.2.2.2.2.2.1
@[irreducible] noncomputable def dp : Nat := c9.2.2.2.2.2.2.2.2.2.2.2.2.2.1
@[irreducible] noncomputable def un : Nat := c9.2.2.2.2.2.2.2.2.2.2.2.2.2.2.1
@[irreducible] noncomputable def gd : Option (List Code) := c9.2.2.2.2.2.2.2.2.2.2.2.2.2.2.2.1
@[irreducible] noncomputable def outr : List Env := c9.2.2.2.2.2.2.2.2.2.2.2.2.2.2.2.2.1
@[irreducible] noncomputable def A₀ : Around := c9.2.2.2.2.2.2.2.2.2.2.2.2.2.2.2.2.2.1
@[irreducible] noncomputable def base : Heap := c9.2.2.2.2.2.2.2.2.2.2.2.2.2.2.2.2.2.2.1
@[irreducible] noncomputable def h₀ : Heap := c9.2.2.2.2.2.2.2.2.2.2.2.2.2.2.2.2.2.2.2.1
@[irreducible] noncomputable def L : Addr := c9.2.2.2.2.2.2.2.2.2.2.2.2.2.2.2.2.2.2.2.2.1
@[irreducible] noncomputable def u : Str → Option Value := c9.2.2.2.2.2.2.2.2.2.2.2.2.2.2.2.2.2.2.2.2.2.1
@[irreducible] noncomputable def s : Shared := c9.2.2.2.2.2.2.2.2.2.2.2.2.2.2.2.2.2.2.2.2.2.2.1
@[irreducible] noncomputable def Q : Flow → Shared → Prop := c9.2.2.2.2.2.2.2.2.2.2.2.2.2.2.2.2.2.2.2.2.2.2.2.1
@[irreducible] noncomputable def R : Result → Shared → Prop := c9.2.2.2.2.2.2.2.2.2.2.2.2.2.2.2.2.2.2.2.2.2.2.2.2
set_option maxRecDepth 100000 in
set_option maxHeartbeats 8000000 in
theorem core9 : St9 w p loose mean mg mb news a1 b1 t1 t2 n tn dp un gd outr A₀ base h₀ L u s Q R := by
  unfold St9 PieB P0
  k_fill
  intro hl1 hl2 hne h0 hn B F hm X N T hd hu hQ
  have F1 := fr_norm _ F hm
  clear F hm
  have e1 : Str.length (ofL a1) = a1.length := ofL_len a1
  have e2 : Str.length (ofL b1) = b1.length := ofL_len b1
  show wpAny (model Challenge.rw_sn0024_01.row.prog w) _ (execs [_, _, _, _] _) _ _ _
  repeat' (first | (k_unfold; (try dsimp only)) | ((fail_if_success (with_reducible show wpAny _ _ (exec (Stmt.While _ _ _ _) _) _ _ _)); (fail_if_success (with_reducible show wpAny _ _ (exec (Stmt.For _ _ _ _ _) _) _ _ _)); (fail_if_success (with_reducible show wpAny _ _ (pyIter _) _ _ _)); first | walk1 | (dsimp only; walk1)) | (leave1; (try dsimp only)))
  rename Fr _ _ _ _ => F5
  rename News _ _ _ _ => N5
  rename IsRange _ _ _ _ _ _ _ _ => R5
  rw [e1] at R5
  refine list_rng rfl F5 N5 R5 (small_row hl1) (size_row hl1) (by omega) ?_
  intro D us cc h6 tk6 F6 N6 l6 hI6
  clear F5 N5 R5
  repeat' (first | (k_unfold; (try dsimp only)) | ((fail_if_success (with_reducible show wpAny _ _ (exec (Stmt.While _ _ _ _) _) _ _ _)); (fail_if_success (with_reducible show wpAny _ _ (exec (Stmt.For _ _ _ _ _) _) _ _ _)); (fail_if_success (with_reducible show wpAny _ _ (pyIter _) _ _ _)); first | walk1 | (dsimp only; walk1)) | (leave1; (try dsimp only)))
  walk1
  repeat' (first | (k_unfold; (try dsimp only)) | ((fail_if_success (with_reducible show wpAny _ _ (exec (Stmt.While _ _ _ _) _) _ _ _)); (fail_if_success (with_reducible show wpAny _ _ (exec (Stmt.For _ _ _ _ _) _) _ _ _)); (fail_if_success (with_reducible show wpAny _ _ (pyIter _) _ _ _)); first | walk1 | (dsimp only; walk1)) | (leave1; (try dsimp only)))
  rename Fr _ _ _ _ => F7
  rename News _ _ _ _ => N7
  rename IsRange _ _ _ _ _ _ _ _ => R7
  rw [e2] at R7
  refine rng (σ := List Value × List Int × Int × Tok) (n := b1.length) (fun c => (D, listOf (List.toArray c.1) cc) :: news) (fun c => [(Str.ofString "result", Value.int c.2.2.1 c.2.2.2), (Str.ofString "row", Value.ref D), (Str.ofString "max_cost", Value.int n tn), (Str.ofString "b", Value.str (ofL b1) t2), (Str.ofString "a", Value.str (ofL a1) t1)]) (fun i c => OutAt a1 b1 n i c.1 c.2.1 c.2.2.1)
    (us, row0 a1.length, 0, _) rfl R7 (small_one (by omega) (by omega) (by omega) (by omega)) (by rw [rangeSize_nat]; omega) F7 N7 (by walk_at "K") ⟨hI6, by simp [row0], by simp⟩ (fun _ _ _ => rfl) ?turn ?done
  case turn =>
    rintro i ⟨us1, row1, res1, tr1⟩ u7 t7 h7 tk7 own hi hoff hP F8 N8
    clear F7 N7 R7
    dsimp only at hP F8 N8
    simp only [Int.zero_add, Int.mul_one] at F8
    repeat' (first | (k_unfold; (try dsimp only)) | ((fail_if_success (with_reducible show wpAny _ _ (exec (Stmt.While _ _ _ _) _) _ _ _)); (fail_if_success (with_reducible show wpAny _ _ (exec (Stmt.For _ _ _ _ _) _) _ _ _)); (fail_if_success (with_reducible show wpAny _ _ (pyIter _) _ _ _)); first | walk1 | (dsimp only; walk1)) | (leave1; (try dsimp only)))
    rename Fr _ _ _ _ => F9
    rename News _ _ _ _ => N9
    rw [item_ofL] at F9
    obtain ⟨⟨tb, tr2, td, tm⟩, F9⟩ := fr_get (γ := Tok × Tok × Tok × Tok) (fun c => [(Str.ofString "minimum", Value.int 9223372036854775807 c.2.2.2), (Str.ofString "result", Value.int ((i : Int) * 2) c.2.1), (Str.ofString "distance", Value.int ((i : Int) * 2) c.2.2.1), (Str.ofString "bchar", Value.str (ofL [b1.getD i 0]) c.1), (Str.ofString "row", Value.ref D), (Str.ofString "max_cost", Value.int n tn), (Str.ofString "b", Value.str (ofL b1) t2), (Str.ofString "a", Value.str (ofL a1) t1)]) F9 ⟨(_, _, _, _), by walk_at "K"⟩
    dsimp only at F9
    have e3 : Str.length (ofL [b1.getD i 0]) = 1 := ofL_len _
    walk1
    repeat' (first | (k_unfold; (try dsimp only)) | ((fail_if_success (with_reducible show wpAny _ _ (exec (Stmt.While _ _ _ _) _) _ _ _)); (fail_if_success (with_reducible show wpAny _ _ (exec (Stmt.For _ _ _ _ _) _) _ _ _)); (fail_if_success (with_reducible show wpAny _ _ (pyIter _) _ _ _)); first | walk1 | (dsimp only; walk1)) | (leave1; (try dsimp only)))
    rename Fr _ _ _ _ => Fa
    rename News _ _ _ _ => Na
    rename IsRange _ _ _ _ _ _ _ _ => Ra
    rw [e1] at Ra
    refine rng (σ := List Value × List Int × (Int × Tok) × (Int × Tok) × (Int × Tok)) (n := a1.length) (fun c => (D, listOf (List.toArray c.1) cc) :: (news ++ own)) (fun c => [(Str.ofString "minimum", Value.int c.2.2.2.2.1 c.2.2.2.2.2), (Str.ofString "result", Value.int c.2.2.2.1.1 c.2.2.2.1.2), (Str.ofString "distance", Value.int c.2.2.1.1 c.2.2.1.2), (Str.ofString "bchar", Value.str (ofL [b1.getD i 0]) tb), (Str.ofString "row", Value.ref D), (Str.ofString "max_cost", Value.int n tn), (Str.ofString "b", Value.str (ofL b1) t2), (Str.ofString "a", Value.str (ofL a1) t1)]) (fun j c => InAt a1 (b1.getD i 0) row1 ((i : Int) * 2) j c.1 c.2.1 c.2.2.1.1 c.2.2.2.1.1 c.2.2.2.2.1)
      (us1, row1, (_, _), (_, _), (_, _)) rfl Ra (small_one (by omega) (by omega) (by omega) (by omega)) (by rw [rangeSize_nat]; omega) Fa Na (by walk_at "K") (inAt0 hP.iu hP.ln) (fun _ _ _ => rfl) ?turn2 ?done2
    case turn2 =>
      rintro j ⟨us2, row2, ⟨dd, td2⟩, ⟨res2, tr3⟩, ⟨mn2, tm2⟩⟩ ua ta ha tka own2 hj hoff2 hP2 Fb Nb
      clear Fa Na Ra
      dsimp only at hP2 Fb Nb
      simp only [Int.zero_add, Int.mul_one] at Fb
      have iu2 := hP2.iu
      have ln2 := hP2.ln
      repeat' (first | (k_unfold; (try dsimp only)) | ((fail_if_success (with_reducible show wpAny _ _ (exec (Stmt.While _ _ _ _) _) _ _ _)); (fail_if_success (with_reducible show wpAny _ _ (exec (Stmt.For _ _ _ _ _) _) _ _ _)); (fail_if_success (with_reducible show wpAny _ _ (pyIter _) _ _ _)); first | walk1 | (dsimp only; walk1)) | (leave1; (try dsimp only)))
      rename Fr _ _ _ _ => Fc
      rename News _ _ _ _ => Nc
      rw [item_ofL]
      have e4 : Str.length (ofL [a1.getD j 0]) = 1 := ofL_len _
      refine sub_ct w p loose mean mg mb _ (ofL [b1.getD i 0]) _ (ofL [a1.getD j 0]) _ (by omega) (by omega) _ _ _ _ _ _ _ _ _ _ _ _ _ _ _ _ _ B Fc X Nc T rfl (by omega) (by omega) ?_
      intro tS hS tkS FS NS
      clear Fc Nc
      dsimp only
      repeat' (first | (k_unfold; (try dsimp only)) | ((fail_if_success (with_reducible show wpAny _ _ (exec (Stmt.While _ _ _ _) _) _ _ _)); (fail_if_success (with_reducible show wpAny _ _ (exec (Stmt.For _ _ _ _ _) _) _ _ _)); (fail_if_success (with_reducible show wpAny _ _ (pyIter _) _ _ _)); first | walk1 | (dsimp only; walk1)) | (leave1; (try dsimp only)))
      rename Fr _ _ _ _ => Fd
      rename News _ _ _ _ => Nd
      have off : ∀ p ∈ (news ++ own) ++ own2, p.1 ≠ D := by
        intro p hp
        rcases List.mem_append.mp hp with hp | hp
        · rcases List.mem_append.mp hp with hp | hp
          · exact Nat.ne_of_lt (l6 p hp)
          · exact hoff p hp D (.head _)
        · exact hoff2 p hp D (.head _)
      rw [List.cons_append] at Nd
      refine ksa_set Fd Nd (Upd.head off) iu2 (by omega) (by omega) (by omega) ?_
      intro he Fe Ne hie _ _
      clear Fd Nd
      repeat' (first | (k_unfold; (try dsimp only)) | ((fail_if_success (with_reducible show wpAny _ _ (exec (Stmt.While _ _ _ _) _) _ _ _)); (fail_if_success (with_reducible show wpAny _ _ (exec (Stmt.For _ _ _ _ _) _) _ _ _)); (fail_if_success (with_reducible show wpAny _ _ (pyIter _) _ _ _)); first | walk1 | (dsimp only; walk1)) | (leave1; (try dsimp only)))
      · rename _ < _ => hlt
        rename Fr _ _ _ _ => Ff
        rename News _ _ _ _ => Nf
        have h3 := inAt_go hP2 hj hie
        have hlt' : pmin (pmin res2 (row2.getD j 0) + 2) (dd + scN (b1.getD i 0) (a1.getD j 0)) < mn2 := hlt
        rw [if_pos hlt'] at h3
        exact te_next (_, _, (_, _), (_, _), (_, _)) h3 Ff Nf (by walk_at "K") (fun p hp => (List.mem_append_left own2 hp : p ∈ _ ++ own2)) (fun p hp => .tail _ (List.mem_append_right (news ++ own) hp))
      · rename ¬ _ < _ => hlt
        rename Fr _ _ _ _ => Ff
        rename News _ _ _ _ => Nf
        have h3 := inAt_go hP2 hj hie
        have hlt' : ¬ pmin (pmin res2 (row2.getD j 0) + 2) (dd + scN (b1.getD i 0) (a1.getD j 0)) < mn2 := hlt
        rw [if_neg hlt'] at h3
        exact te_next (_, _, (_, _), (_, _), (_, _)) h3 Ff Nf (by walk_at "K") (fun p hp => (List.mem_append_left own2 hp : p ∈ _ ++ own2)) (fun p hp => .tail _ (List.mem_append_right (news ++ own) hp))
    case done2 =>
      rintro ⟨us2, row2, ⟨dd, td2⟩, ⟨res2, tr3⟩, ⟨mn2, tm2⟩⟩ ua ha tka hP2 Fb Nb
      clear Fa Na Ra
      dsimp only at hP2 Fb Nb
      have hin := inAt_end hP2
      repeat' (first | (k_unfold; (try dsimp only)) | ((fail_if_success (with_reducible show wpAny _ _ (exec (Stmt.While _ _ _ _) _) _ _ _)); (fail_if_success (with_reducible show wpAny _ _ (exec (Stmt.For _ _ _ _ _) _) _ _ _)); (fail_if_success (with_reducible show wpAny _ _ (pyIter _) _ _ _)); first | walk1 | (dsimp only; walk1)) | (leave1; (try dsimp only)))
      · rename n < mn2 => hlt
        dsimp only
        rename Fr _ _ _ _ => Ff
        rename News _ _ _ _ => Nf
        have hv := outAt_stop hP hi hin hlt
        exact hQ _ _ _ _ news ⟨_, congrArg (fun z => Flow.ret (Value.int z _)) hv.symm, rfl⟩ Ff (kst_newsOf Nf fun p hp => .tail _ (List.mem_append_left own hp))
      · rename ¬ n < mn2 => hlt
        rename Fr _ _ _ _ => Ff
        rename News _ _ _ _ => Nf
        have h3 := outAt_go hP hi hin hP2.iu hP2.ln hlt
        exact te_next (_, _, _, _) h3 Ff Nf (by walk_at "K") (fun p hp => (List.mem_append_left own hp : p ∈ (_ :: news) ++ own)) (fun p hp => (List.mem_append_right _ hp : p ∈ (_ :: news) ++ own))
  case done =>
    rintro ⟨us1, row1, res1, tr1⟩ u7 h7 tk7 hP F8 N8
    clear F7 N7 R7
    dsimp only at hP F8 N8
    repeat' (first | (k_unfold; (try dsimp only)) | ((fail_if_success (with_reducible show wpAny _ _ (exec (Stmt.While _ _ _ _) _) _ _ _)); (fail_if_success (with_reducible show wpAny _ _ (exec (Stmt.For _ _ _ _ _) _) _ _ _)); (fail_if_success (with_reducible show wpAny _ _ (pyIter _) _ _ _)); first | walk1 | (dsimp only; walk1)) | (leave1; (try dsimp only)))
    dsimp only
    rename Fr _ _ _ _ => F9
    rename News _ _ _ _ => N9
    exact hQ _ _ _ _ news ⟨_, congrArg (fun z => Flow.ret (Value.int z _)) (outAt_end hP).symm, rfl⟩ F9 (kst_newsOf N9 fun p hp => .tail _ hp)
set_option maxHeartbeats 4000000 in
theorem all9 (q9 : Vt9) : Sp9 q9 := by
  refine @eps_all Vt9 ne9 Sp9 ?_ q9
  have h := core9
  unfold w p loose mean mg mb news a1 b1 t1 t2 n tn dp un gd outr A₀ base h₀ L u s Q R at h
  exact h
end lev_rows_e
set_option maxHeartbeats 4000000 in
theorem lev_rows (w : World) (p : Program) (loose : List Str) (mean : ExcName → Option Value) (mg mb : Str → Option Value) (news : CbLed) (a1 b1 : List Nat) (t1 t2 : Tok) (n : Int) (tn : CbTok) (hl1 : a1.length ≤ 40) (hl2 : b1.length ≤ 40) (hne : a1.length ≠ 0) (h0 : 0 ≤ n) (hn : n ≤ 1000) : Pie w p loose mean mg mb 6 (Str.ofString "_levenshtein_distance") levS 35 (.ref 34) (levB.drop 13)
      (fun u => ∀ p ∈ [(Str.ofString "max_cost", Value.int n tn), (Str.ofString "b", Value.str (ofL b1) t2), (Str.ofString "a", Value.str (ofL a1) t1)], u p.1 = some p.2) news
      (fun f _ news' => ∃ t, f = .ret (.int (outer a1 n b1 0 (row0 a1.length) 0) t) ∧ news' = news) := by
  intro dp un gd outr A₀ base h₀ L u s Q R
  have h := lev_rows_e.all9 (w, p, loose, mean, mg, mb, news, a1, b1, t1, t2, n, tn, dp, un, gd, outr, A₀, base, h₀, L, u, s, Q, R)
  dsimp only [lev_rows_e.Sp9, lev_rows_e.St9] at h
  exact h hl1 hl2 hne h0 hn
end Mine
end
section
open PySem PySem.W PyProof.Rows PySem.Calls PySem.Spec
namespace Mine
namespace lev_core_e
def St9 (w : World) (p : Program) (loose : List Str) (mean : ExcName → Option Value) (mg : Str → Option Value) (mb : Str → Option Value) (news : CbLed) (ta : Tok) (tb : Tok) (n : Int) (tn : CbTok) (dp : Nat) (un : Nat) (gd : Option (List Code)) (outer : List Env) (A₀ : Around) (base : Heap) (h₀ : Heap) (L : Addr) (u : Str → Option Value) (s : Shared) (Q : Flow → Shared → Prop) (R : Result → Shared → Prop) : Prop :=
  ∀ (a : List Nat), ∀ (b : List Nat), (a.length ≤ 40) → (b.length ≤ 40) → (0 ≤ n) → (n ≤ 1000) → PieB w p loose mean mg mb 8 (Str.ofString "_levenshtein_distance") levS 35 (.ref 34) (levB.drop 9)
      (fun u => ∀ p ∈ [(Str.ofString "max_cost", Value.int n tn), (Str.ofString "b", Value.str (ofL b) tb), (Str.ofString "a", Value.str (ofL a) ta)], u p.1 = some p.2) news
      (fun f _ news' => ∃ t, f = .ret (.int (core a b n) t) ∧ news' = news) dp un gd outer A₀ base h₀ L u s Q R
abbrev Vt9 : Type := World × Program × (List Str) × (ExcName → Option Value) × (Str → Option Value) × (Str → Option Value) × CbLed × Tok × Tok × Int × CbTok × Nat × Nat × (Option (List Code)) × (List Env) × Around × Heap × Heap × Addr × (Str → Option Value) × Shared × (Flow → Shared → Prop) × (Result → Shared → Prop)
theorem ne9 : Nonempty Vt9 := by
  obtain ⟨w0⟩ := neW
  exact ⟨w0, default, [], (fun _ => none), (fun _ => none), (fun _ => none), [], 0, 0, 0, 0, 0, 0, none, [], callerA, {}, {}, 0, (fun _ => none), {}, (fun _ _ => True), (fun _ _ => True)⟩
def Sp9 (t : Vt9) : Prop := St9 (t.1) (t.2.1) (t.2.2.1) (t.2.2.2.1) (t.2.2.2.2.1) (t.2.2.2.2.2.1) (t.2.2.2.2.2.2.1) (t.2.2.2.2.2.2.2.1) (t.2.2.2.2.2.2.2.2.1) (t.2.2.2.2.2.2.2.2.2.1) (t.2.2.2.2.2.2.2.2.2.2.1) (t.2.2.2.2.2.2.2.2.2.2.2.1) (t.2.2.2.2.2.2.2.2.2.2.2.2.1) (t.2.2.2.2.2.2.2.2.2.2.2.2.2.1) (t.2.2.2.2.2.2.2.2.2.2.2.2.2.2.1) (t.2.2.2.2.2.2.2.2.2.2.2.2.2.2.2.1) (t.2.2.2.2.2.2.2.2.2.2.2.2.2.2.2.2.1) (t.2.2.2.2.2.2.2.2.2.2.2.2.2.2.2.2.2.1) (t.2.2.2.2.2.2.2.2.2.2.2.2.2.2.2.2.2.2.1) (t.2.2.2.2.2.2.2.2.2.2.2.2.2.2.2.2.2.2.2.1) (t.2.2.2.2.2.2.2.2.2.2.2.2.2.2.2.2.2.2.2.2.1) (t.2.2.2.2.2.2.2.2.2.2.2.2.2.2.2.2.2.2.2.2.2.1) (t.2.2.2.2.2.2.2.2.2.2.2.2.2.2.2.2.2.2.2.2.2.2)
noncomputable def c9 : Vt9 := @Classical.epsilon Vt9 ne9 fun t => ¬ Sp9 t
@[irreducible] noncomputable def w : World := c9.1
@[irreducible] noncomputable def p : Program := c9.2.1
@[irreducible] noncomputable def loose : List Str := c9.2.2.1
@[irreducible] noncomputable def mean : ExcName → Option Value := c9.2.2.2.1
@[irreducible] noncomputable def mg : Str → Option Value := c9.2.2.2.2.1
@[irreducible] noncomputable def mb : Str → Option Value := c9.2.2.2.2.2.1
@[irreducible] noncomputable def news : CbLed := c9.2.2.2.2.2.2.1
@[irreducible] noncomputable def ta : Tok := c9.2.2.2.2.2.2.2.1
@[irreducible] noncomputable def tb : Tok := c9.2.2.2.2.2.2.2.2.1
@[irreducible] noncomputable def n : Int := c9.2.2.2.2.2.2.2.2.2.1
@[irreducible] noncomputable def tn : CbTok := c9.2.2.2.2.2.2.2.2.2.2.1
@[irreducible] noncomputable def dp : Nat := c9.2.2.2.2.2.2.2.2.2.2.2.1
@[irreducible] noncomputable def un : Nat := c9.2.2.2.2.2.2.2.2.2.2.2.2.1
@[irreducible] noncomputable def gd : Option (List Code) := c9.2.2.2.2.2.2.2.2.2.2.2.2.2.1
@[irreducible] noncomputable def outer : List Env := c9.2.2.2.2.2.2.2.2.2.2.2.2.2.2.1
@[irreducible] noncomputable def A₀ : Around := c9.2.2.2.2.2.2.2.2.2.2.2.2.2.2.2.1
@[irreducible] noncomputable def base : Heap := c9.2.2.2.2.2.2.2.2.2.2.2.2.2.2.2.2.1
@[irreducible] noncomputable def h₀ : Heap := c9.2.2.2.2.2.2.2.2.2.2.2.2.2.2.2.2.2.1
@[irreducible] noncomputable def L : Addr := c9.2.2.2.2.2.2.2.2.2.2.2.2.2.2.2.2.2.2.1
@[irreducible] noncomputable def u : Str → Option Value := c9.2.2.2.2.2.2.2.2.2.2.2.2.2.2.2.2.2.2.2.1
@[irreducible] noncomputable def s : Shared := c9.2.2.2.2.2.2.2.2.2.2.2.2.2.2.2.2.2.2.2.2.1
@[irreducible] noncomputable def Q : Flow → Shared → Prop := c9.2.2.2.2.2.2.2.2.2.2.2.2.2.2.2.2.2.2.2.2.2.1
@[irreducible] noncomputable def R : Result → Shared → Prop := c9.2.2.2.2.2.2.2.2.2.2.2.2.2.2.2.2.2.2.2.2.2.2
set_option maxRecDepth 100000 in
set_option maxHeartbeats 8000000 in
theorem core9 : St9 w p loose mean mg mb news ta tb n tn dp un gd outer A₀ base h₀ L u s Q R := by
  unfold St9 PieB P0
  k_fill
  intro a b ha hb h0 hn B F hm X N T hd hu hQ
  have F1 := fr_norm _ F hm
  clear F hm
  have e1 : Str.length (ofL a) = a.length := ofL_len a
  have e2 : Str.length (ofL b) = b.length := ofL_len b
  show wpAny (model Challenge.rw_sn0024_01.row.prog w) _ (execs [_, _, _, _, _, _, _, _] _) _ _ _
  repeat' (first | (k_unfold; (try dsimp only)) | ((fail_if_success (with_reducible show wpAny _ _ (exec (Stmt.While _ _ _ _) _) _ _ _)); (fail_if_success (with_reducible show wpAny _ _ (exec (Stmt.For _ _ _ _ _) _) _ _ _)); (fail_if_success (with_reducible show wpAny _ _ (pyIter _) _ _ _)); (fail_if_success (with_reducible show wpAny _ _ (exec (Stmt.If _ _ _ (Pos.mk 31 _ _ _)) _) _ _ _)); first | walk1 | (dsimp only; walk1)) | (leave1; (try dsimp only)))
  any_goals (dsimp only; refine hQ _ _ _ _ news ⟨_, congrArg (fun z => Flow.ret (Value.int z _)) ?_, rfl⟩ (by k_asm) (by k_asm))
  any_goals (exact (core_nil (by omega)).symm)
  rename Fr _ _ _ _ => F2
  rename News _ _ _ _ => N2
  have hna : a.length ≠ 0 := by omega
  have hnb : b.length ≠ 0 := by omega
  obtain ⟨hcore, hle, hne⟩ := core_two (n := n) hna hnb
  rw [hcore] at hQ
  obtain ⟨hl1, hl2⟩ := les_le ha hb
  refine cut_se F2 N2 (fun m' => ∃ t1 t2, ∀ p ∈ [(Str.ofString "max_cost", Value.int n tn), (Str.ofString "b", Value.str (ofL (gre a b)) t2), (Str.ofString "a", Value.str (ofL (les a b)) t1)], m' p.1 = some p.2) ?sa ?ra
  case sa =>
    repeat' (first | (k_unfold; (try dsimp only)) | ((fail_if_success (with_reducible show wpAny _ _ (exec (Stmt.While _ _ _ _) _) _ _ _)); (fail_if_success (with_reducible show wpAny _ _ (exec (Stmt.For _ _ _ _ _) _) _ _ _)); (fail_if_success (with_reducible show wpAny _ _ (pyIter _) _ _ _)); first | walk1 | (dsimp only; walk1)) | (leave1; (try dsimp only)))
    · have q1 : les a b = b := by unfold les; rw [if_pos (by omega)]
      have q2 : gre a b = a := by unfold gre; rw [if_pos (by omega)]
      rw [q1, q2]
      rename Fr _ _ _ _ => F3
      rename News _ _ _ _ => N3
      exact se_intro F3 (kst_newsOf N3 fun p hp => .tail _ hp) ⟨_, _, by walk_at "K"⟩
    · have q1 : les a b = a := by unfold les; rw [if_neg (by omega)]
      have q2 : gre a b = b := by unfold gre; rw [if_neg (by omega)]
      rw [q1, q2]
      rename Fr _ _ _ _ => F3
      rename News _ _ _ _ => N3
      exact se_intro F3 N3 ⟨_, _, by walk_at "K"⟩
  case ra =>
    intro h3 tk3 u3 F3 N3 ⟨t1, t2, hC⟩
    have F4 := fr_norm _ F3 hC
    clear F2 F3 N2 hcore e1 e2 hna hnb ha hb hC
    revert hQ hle hne hl1 hl2 F4
    generalize les a b = a1
    generalize gre a b = b1
    intro hQ hle hne hl1 hl2 F4
    dsimp only
    have e1 : Str.length (ofL a1) = a1.length := ofL_len a1
    have e2 : Str.length (ofL b1) = b1.length := ofL_len b1
    repeat' (first | (k_unfold; (try dsimp only)) | ((fail_if_success (with_reducible show wpAny _ _ (exec (Stmt.While _ _ _ _) _) _ _ _)); (fail_if_success (with_reducible show wpAny _ _ (exec (Stmt.For _ _ _ _ _) _) _ _ _)); (fail_if_success (with_reducible show wpAny _ _ (pyIter _) _ _ _)); (fail_if_success (with_reducible show wpAny _ _ (execs (List.cons (Stmt.Assign _ _ (Pos.mk 35 _ _ _)) _) _) _ _ _)); first | walk1 | (dsimp only; walk1)) | (leave1; (try dsimp only)))
    any_goals (dsimp only; refine hQ _ _ _ _ news ⟨_, congrArg (fun z => Flow.ret (Value.int z _)) ?_, rfl⟩ (by k_asm) (by k_asm))
    any_goals (refine (core2_big ?_).symm; assumption)
    rename Fr _ _ _ _ => F5
    rename News _ _ _ _ => N5
    rename ¬ _ < _ => hgo
    rw [core2_go hgo] at hQ
    dsimp only
    exact lev_rows w p loose mean mg mb news a1 b1 t1 t2 n tn hl1 hl2 hne h0 hn dp un gd outer A₀ base h₀ L _ _ _ R B F5 (by walk_at "K") X N5 T (by omega) (by omega) hQ
set_option maxHeartbeats 4000000 in
theorem all9 (q9 : Vt9) : Sp9 q9 := by
  refine @eps_all Vt9 ne9 Sp9 ?_ q9
  have h := core9
  unfold w p loose mean mg mb news ta tb n tn dp un gd outer A₀ base h₀ L u s Q R at h
  exact h
end lev_core_e
set_option maxHeartbeats 4000000 in
theorem lev_core (w : World) (p : Program) (loose : List Str) (mean : ExcName → Option Value) (mg mb : Str → Option Value) (news : CbLed) (a b : List Nat) (ta tb : Tok) (n : Int) (tn : CbTok) (ha : a.length ≤ 40) (hb : b.length ≤ 40) (h0 : 0 ≤ n) (hn : n ≤ 1000) : Pie w p loose mean mg mb 8 (Str.ofString "_levenshtein_distance") levS 35 (.ref 34) (levB.drop 9)
      (fun u => ∀ p ∈ [(Str.ofString "max_cost", Value.int n tn), (Str.ofString "b", Value.str (ofL b) tb), (Str.ofString "a", Value.str (ofL a) ta)], u p.1 = some p.2) news
      (fun f _ news' => ∃ t, f = .ret (.int (core a b n) t) ∧ news' = news) := by
  intro dp un gd outer A₀ base h₀ L u s Q R
  have h := lev_core_e.all9 (w, p, loose, mean, mg, mb, news, ta, tb, n, tn, dp, un, gd, outer, A₀, base, h₀, L, u, s, Q, R)
  dsimp only [lev_core_e.Sp9, lev_core_e.St9] at h
  exact h a b ha hb h0 hn
end Mine
end
section
open PySem PySem.W PyProof.Rows PySem.Calls PySem.Spec
namespace Mine
local macro_rules | `(tactic| walk_at "subscriptTail Name Slice str ref") => `(tactic| ((with_reducible show wpAny _ _ (subscriptTail _ (Expr.Slice none (some _) none _) _ _) _ _ _); (with_reducible rename Fr _ _ _ _ => F'); (with_reducible rename News _ _ _ _ => N'); refine slice_strN_nn_len (s := ⟨_, _, _, _, _⟩) F' N' ?_; intro _ _ _ _ _ _))
local macro_rules | `(tactic| walk_at "T3") => `(tactic| first | (rw [if_pos (by assumption), if_pos (by assumption)]; exact Eq.symm (by assumption)) | (rw [if_pos (by assumption), if_neg (by omega)]) | (rw [if_neg (by omega)]))
namespace lev_ct_e
def St9 (w : World) (p : Program) (loose : List Str) (mean : ExcName → Option Value) (mg : Str → Option Value) (mb : Str → Option Value) (news : CbLed) (x : List Nat) (y : List Nat) (t : CbTok) (t' : CbTok) (n : Int) (tn : CbTok) (dp : Nat) (un : Nat) (gd : Option (List Code)) (cn : Str) (cs : Scope) (a0 : Addr) (ccd : Value) (cl : List (Str × Addr)) (outr : List Env) (A₀ : Around) (base : Heap) (h₀ : Heap) (L : Addr) (m : Str → Option Value) (s : Shared) (Q : Value → Shared → Prop) (E : Value → Shared → Prop) : Prop :=
  (x.length ≤ 40) → (y.length ≤ 40) → (0 ≤ n) → (n ≤ 1000) → CtB w p loose mean mg mb 10 35 news [.str (ofL x) t, .str (ofL y) t', .int n tn] (fun t => .int (levL x y n) t) dp un gd cn cs a0 ccd cl outr A₀ base h₀ L m s Q E
abbrev Vt9 : Type := World × Program × (List Str) × (ExcName → Option Value) × (Str → Option Value) × (Str → Option Value) × CbLed × (List Nat) × (List Nat) × CbTok × CbTok × Int × CbTok × Nat × Nat × (Option (List Code)) × Str × Scope × Addr × Value × (List (Str × Addr)) × (List Env) × Around × Heap × Heap × Addr × (Str → Option Value) × Shared × (Value → Shared → Prop) × (Value → Shared → Prop)
theorem ne9 : Nonempty Vt9 := by
  obtain ⟨w0⟩ := neW
  exact ⟨w0, default, [], (fun _ => none), (fun _ => none), (fun _ => none), [], [], [], 0, 0, 0, 0, 0, 0, none, default, default, 0, .none, [], [], callerA, {}, {}, 0, (fun _ => none), {}, (fun _ _ => True), (fun _ _ => True)⟩
def Sp9 (t : Vt9) : Prop := St9 (t.1) (t.2.1) (t.2.2.1) (t.2.2.2.1) (t.2.2.2.2.1) (t.2.2.2.2.2.1) (t.2.2.2.2.2.2.1) (t.2.2.2.2.2.2.2.1) (t.2.2.2.2.2.2.2.2.1) (t.2.2.2.2.2.2.2.2.2.1) (t.2.2.2.2.2.2.2.2.2.2.1) (t.2.2.2.2.2.2.2.2.2.2.2.1) (t.2.2.2.2.2.2.2.2.2.2.2.2.1) (t.2.2.2.2.2.2.2.2.2.2.2.2.2.1) (t.2.2.2.2.2.2.2.2.2.2.2.2.2.2.1) (t.2.2.2.2.2.2.2.2.2.2.2.2.2.2.2.1) (t.2.2.2.2.2.2.2.2.2.2.2.2.2.2.2.2.1) (t.2.2.2.2.2.2.2.2.2.2.2.2.2.2.2.2.2.1) (t.2.2.2.2.2.2.2.2.2.2.2.2.2.2.2.2.2.2.1) (t.2.2.2.2.2.2.2.2.2.2.2.2.2.2.2.2.2.2.2.1) (t.2.2.2.2.2.2.2.2.2.2.2.2.2.2.2.2.2.2.2.2.1) (t.2.2.2.2.2.2.2.2.2.2.2.2.2.2.2.2.2.2.2.2.2.1) (t.2.2.2.2.2.2.2.2.2.2.2.2.2.2.2.2.2.2.2.2.2.2.1) (t.2.2.2.2.2.2.2.2.2.2.2.2.2.2.2.2.2.2.2.2.2.2.2.1) (t.2.2.2.2.2.2.2.2.2.2.2.2.2.2.2.2.2.2.2.2.2.2.2.2.1) (t.2.2.2.2.2.2.2.2.2.2.2.2.2.2.2.2.2.2.2.2.2.2.2.2.2.1) (t.2.2.2.2.2.2.2.2.2.2.2.2.2.2.2.2.2.2.2.2.2.2.2.2.2.2.1) (t.2.2.2.2.2.2.2.2.2.2.2.2.2.2.2.2.2.2.2.2.2.2.2.2.2.2.2.1) (t.2.2.2.2.2.2.2.2.2.2.2.2.2.2.2.2.2.2.2.2.2.2.2.2.2.2.2.2.1) (t.2.2.2.2.2.2.2.2.2.2.2.2.2.2.2.2.2.2.2.2.2.2.2.2.2.2.2.2.2)
noncomputable def c9 : Vt9 := @Classical.epsilon Vt9 ne9 fun t => ¬ Sp9 t
@[irreducible] noncomputable def w : World := c9.1
@[irreducible] noncomputable def p : Program := c9.2.1
@[irreducible] noncomputable def loose : List Str := c9.2.2.1
@[irreducible] noncomputable def mean : ExcName → Option Value := c9.2.2.2.1
@[irreducible] noncomputable def mg : Str → Option Value := c9.2.2.2.2.1
@[irreducible] noncomputable def mb : Str → Option Value := c9.2.2.2.2.2.1
@[irreducible] noncomputable def news : CbLed := c9.2.2.2.2.2.2.1
@[irreducible] noncomputable def x : List Nat := c9.2.2.2.2.2.2.2.1
@[irreducible] noncomputable def y : List Nat := c9.2.2.2.2.2.2.2.2.1
@[irreducible] noncomputable def t : CbTok := c9.2.2.2.2.2.2.2.2.2.1
@[irreducible] noncomputable def t' : CbTok := c9.2.2.2.2.2.2.2.2.2.2.1
@[irreducible] noncomputable def n : Int := c9.2.2.2.2.2.2.2.2.2.2.2.1
@[irreducible] noncomputable def tn : CbTok := c9.2.2.2.2.2.2.2.2.2.2.2.2.1
@[irreducible] noncomputable def dp : Nat := c9.2.2.2.2.2.2.2.2.2.2.2.2.2.1
@[irreducible] noncomputable def un : Nat := c9.2.2.2.2.2.2.2.2.2.2.2.2.2.2.1
@[irreducible] noncomputable def gd : Option (List Code) := c9.2.2.2.2.2.2.2.2.2.2.2.2.2.2.2.1
@[irreducible] noncomputable def cn : Str := c9.2.2.2.2.2.2.2.2.2.2.2.2.2.2.2.2.1
@[irreducible] noncomputable def cs : Scope := c9.2.2.2.2.2.2.2.2.2.2.2.2.2.2.2.2.2.1
@[irreducible] noncomputable def a0 : Addr := c9.2.2.2.2.2.2.2.2.2.2.2.2.2.2.2.2.2.2.1
@[irreducible] noncomputable def ccd : Value := c9.2.2.2.2.2.2.2.2.2.2.2.2.2.2.2.2.2.2.2.1
@[irreducible] noncomputable def cl : List (Str × Addr) := c9.2.2.2.2.2.2.2.2.2.2.2.2.2.2.2.2.2.2.2.2.1
@[irreducible] noncomputable def outr : List Env := c9.2.2.2.2.2.2.2.2.2.2.2.2.2.2.2.2.2.2.2.2.2.1
@[irreducible] noncomputable def A₀ : Around := c9.2.2.2.2.2.2.2.2.2.2.2.2.2.2.2.2.2.2.2.2.2.2.1
@[irreducible] noncomputable def base : Heap := c9.2.2.2.2.2.2.2.2.2.2.2.2.2.2.2.2.2.2.2.2.2.2.2.1
@[irreducible] noncomputable def h₀ : Heap := c9.2.2.2.2.2.2.2.2.2.2.2.2.2.2.2.2.2.2.2.2.2.2.2.2.1
@[irreducible] noncomputable def L : Addr := c9.2.2.2.2.2.2.2.2.2.2.2.2.2.2.2.2.2.2.2.2.2.2.2.2.2.1
@[irreducible] noncomputable def m : Str → Option Value := c9.2.2.2.2.2.2.2.2.2.2.2.2.2.2.2.2.2.2.2.2.2.2.2.2.2.2.1
@[irreducible] noncomputable def s : Shared := c9.2.2.2.2.2.2.2.2.2.2.2.2.2.2.2.2.2.2.2.2.2.2.2.2.2.2.2.1
@[irreducible] noncomputable def Q : Value → Shared → Prop := c9.2.2.2.2.2.2.2.2.2.2.2.2.2.2.2.2.2.2.2.2.2.2.2.2.2.2.2.2.1
@[irreducible] noncomputable def E : Value → Shared → Prop := c9.2.2.2.2.2.2.2.2.2.2.2.2.2.2.2.2.2.2.2.2.2.2.2.2.2.2.2.2.2
set_option maxRecDepth 100000 in
set_option maxHeartbeats 8000000 in
theorem core9 : St9 w p loose mean mg mb news x y t t' n tn dp un gd cn cs a0 ccd cl outr A₀ base h₀ L m s Q E := by
  unfold St9 CtB Ret P0
  k_fill
  intro hx hy h0 hn hB hF hX hN hT hcs hdp hun hret
  have e1 : Str.length (ofL x) ≤ 40 := by rw [ofL_len]; exact hx
  have e2 : Str.length (ofL y) ≤ 40 := by rw [ofL_len]; exact hy
  refine wpAny_call ?_
  k_dflt cell_enter
  rename Fr _ _ _ _ => F0
  have F1 : Fr _ _ _ (kstB (fun _ => none) [(Str.ofString "max_cost", Value.int n tn), (Str.ofString "b", Value.str (ofL y) t'), (Str.ofString "a", Value.str (ofL x) t)]) := fr_open F0
  clear F0
  repeat' (first | (k_unfold; (try dsimp only)) | ((fail_if_success (with_reducible show wpAny _ _ (exec (Stmt.While _ _ _ _) _) _ _ _)); (fail_if_success (with_reducible show wpAny _ _ (exec (Stmt.For _ _ _ _ _) _) _ _ _)); (fail_if_success (with_reducible show wpAny _ _ (pyIter _) _ _ _)); first | walk1 | (dsimp only; walk1)) | (leave1; (try dsimp only)))
  · rename (ofL _ == ofL _) = true => hxy
    rw [ofL_beq, beq_iff_eq] at hxy
    refine cb_retI (x := levL x y n) hret (by simp [levL, hxy]) (by k_asm) (by k_asm)
  rename (ofL _ == ofL _) = false => hxy
  rename Fr _ _ _ _ => F1
  rename News _ _ _ _ => N1
  rw [ofL_beq, beq_eq_false_iff_ne] at hxy
  refine wh (σ := Nat × Tok) (fun _ => news) (fun c => [(Str.ofString "pre", .int (c.1 : Int) c.2), (Str.ofString "max_cost", Value.int n tn), (Str.ofString "b", Value.str (ofL y) t'), (Str.ofString "a", Value.str (ofL x) t)]) (fun c => PreAt x y c.1) (fun c => preT x y c.1) (fun c => x.length - c.1) (0, _) F1 N1 (by walk_at "K") (preAt0 x y) ?test ?turn ?done
  all_goals (clear F1 N1)
  case test =>
    rintro ⟨k, tk1⟩ u h2 tk2 hP F2 N2
    dsimp only at hP F2 N2 ⊢
    rw [preT_eq hP.1 hP.2.1]
    repeat' (first | (k_unfold; (try dsimp only)) | ((fail_if_success (with_reducible show wpAny _ _ (exec (Stmt.While _ _ _ _) _) _ _ _)); (fail_if_success (with_reducible show wpAny _ _ (exec (Stmt.For _ _ _ _ _) _) _ _ _)); (fail_if_success (with_reducible show wpAny _ _ (pyIter _) _ _ _)); first | walk1 | (dsimp only; walk1)) | (leave1; (try dsimp only)))
    all_goals (first | k_asm | (simp only [*, if_true, if_false, ne_eq, not_false_eq_true, not_true_eq_false]; done) | skip)
  case turn =>
    rintro ⟨k, tk1⟩ u h2 tk2 hP hT F2 N2
    dsimp only at hP F2 N2 hT ⊢
    obtain ⟨hP', hk1, hk2⟩ := preAt_go hP hT
    repeat' (first | (k_unfold; (try dsimp only)) | ((fail_if_success (with_reducible show wpAny _ _ (exec (Stmt.While _ _ _ _) _) _ _ _)); (fail_if_success (with_reducible show wpAny _ _ (exec (Stmt.For _ _ _ _ _) _) _ _ _)); (fail_if_success (with_reducible show wpAny _ _ (pyIter _) _ _ _)); first | walk1 | (dsimp only; walk1)) | (leave1; (try dsimp only)))
    rename Fr _ _ _ _ => F3
    rename News _ _ _ _ => N3
    exact te_next (k + 1, _) ⟨hP', by dsimp only; omega⟩ F3 N3 (by walk_at "K") (fun _ h => h) (fun _ h => nomatch h)
  case done =>
    rintro ⟨k, tk1⟩ u h2 tk2 hP hT F2 N2
    dsimp only at hP F2 N2 hT ⊢
    have hk := preAt_end hP hT
    repeat' (first | (k_unfold; (try dsimp only)) | ((fail_if_success (with_reducible show wpAny _ _ (exec (Stmt.While _ _ _ _) _) _ _ _)); (fail_if_success (with_reducible show wpAny _ _ (exec (Stmt.For _ _ _ _ _) _) _ _ _)); (fail_if_success (with_reducible show wpAny _ _ (pyIter _) _ _ _)); first | walk1 | (dsimp only; walk1)) | (leave1; (try dsimp only)))
    rename Fr _ _ _ _ => F3
    rename News _ _ _ _ => N3
    rw [slice_from, slice_from] at F3
    obtain ⟨⟨ta, tb, tp⟩, F4⟩ := fr_get (γ := Tok × Tok × Tok) (fun c => [(Str.ofString "post", .int 0 c.2.2), (Str.ofString "max_cost", Value.int n tn), (Str.ofString "b", Value.str (ofL (y.drop k)) c.2.1), (Str.ofString "a", Value.str (ofL (x.drop k)) c.1)]) F3 ⟨(_, _, _), by walk_at "K"⟩
    dsimp only at F4
    refine wh (σ := Int × Tok) (fun _ => news) (fun c => [(Str.ofString "post", .int c.1 c.2), (Str.ofString "max_cost", Value.int n tn), (Str.ofString "b", Value.str (ofL (y.drop k)) tb), (Str.ofString "a", Value.str (ofL (x.drop k)) ta)]) (fun c => ∃ j : Nat, c.1 = -(j : Int) ∧ PreAt (x.drop k).reverse (y.drop k).reverse j) (fun c => preT (x.drop k).reverse (y.drop k).reverse (-c.1).toNat) (fun c => (x.drop k).length - (-c.1).toNat) (0, tp) F4 N3 (by walk_at "K") ⟨0, rfl, preAt0 _ _⟩ ?test ?turn ?done
    all_goals (clear F3 F4 N3; (try clear hP hT))
    all_goals (
      have ea : Str.length (ofL (x.drop k)) ≤ 40 := by rw [ofL_len, List.length_drop]; omega
      have eb : Str.length (ofL (y.drop k)) ≤ 40 := by rw [ofL_len, List.length_drop]; omega
      clear e1 e2
      skip)
    case test =>
      rintro ⟨post, tk1⟩ u h2 tk2 ⟨j, hj, hP⟩ F2 N2
      dsimp only at hj hP F2 N2 ⊢
      subst hj
      have ej : (- -(j : Int)).toNat = j := by omega
      rw [ej]
      have hj1 := hP.1
      have hj2 := hP.2.1
      rw [List.length_reverse] at hj1 hj2
      have la : (ofL (x.drop k)).length = (x.drop k).length := ofL_len _
      have lb : (ofL (y.drop k)).length = (y.drop k).length := ofL_len _
      have sa : (Txt.slice (ofL (x.drop k)) none none).length = (x.drop k).length := by rw [slice_all]; exact ofL_len _
      have sb : (Txt.slice (ofL (y.drop k)) none none).length = (y.drop k).length := by rw [slice_all]; exact ofL_len _
      rcases Nat.eq_zero_or_pos j with rfl | hj0
      · rw [postT_eq0]
        repeat' (first | (k_unfold; (try dsimp only)) | ((fail_if_success (with_reducible show wpAny _ _ (exec (Stmt.While _ _ _ _) _) _ _ _)); (fail_if_success (with_reducible show wpAny _ _ (exec (Stmt.For _ _ _ _ _) _) _ _ _)); (fail_if_success (with_reducible show wpAny _ _ (pyIter _) _ _ _)); first | walk1 | (dsimp only; walk1)) | (leave1; (try dsimp only)))
        all_goals (first | k_asm | walk_at "T3" | skip)
      · have sa : (Txt.slice (ofL (x.drop k)) none (some (-(j : Int)))).length = (x.drop k).length - j := by rw [slice_to_neg _ _ (by omega), ofL_len, List.length_take]; omega
        have sb : (Txt.slice (ofL (y.drop k)) none (some (-(j : Int)))).length = (y.drop k).length - j := by rw [slice_to_neg _ _ (by omega), ofL_len, List.length_take]; omega
        rw [postT_eq hj0]
        repeat' (first | (k_unfold; (try dsimp only)) | ((fail_if_success (with_reducible show wpAny _ _ (exec (Stmt.While _ _ _ _) _) _ _ _)); (fail_if_success (with_reducible show wpAny _ _ (exec (Stmt.For _ _ _ _ _) _) _ _ _)); (fail_if_success (with_reducible show wpAny _ _ (pyIter _) _ _ _)); first | walk1 | (dsimp only; walk1)) | (leave1; (try dsimp only)))
        all_goals (first | k_asm | walk_at "T3" | skip)
    case turn =>
      rintro ⟨post, tk1⟩ u h2 tk2 ⟨j, hj, hP⟩ hT F2 N2
      dsimp only at hj hP F2 N2 hT ⊢
      subst hj
      have ej : (- -(j : Int)).toNat = j := by omega
      rw [ej] at hT
      obtain ⟨hP', hk1, hk2⟩ := preAt_go hP hT
      rw [List.length_reverse] at hk1
      repeat' (first | (k_unfold; (try dsimp only)) | ((fail_if_success (with_reducible show wpAny _ _ (exec (Stmt.While _ _ _ _) _) _ _ _)); (fail_if_success (with_reducible show wpAny _ _ (exec (Stmt.For _ _ _ _ _) _) _ _ _)); (fail_if_success (with_reducible show wpAny _ _ (pyIter _) _ _ _)); first | walk1 | (dsimp only; walk1)) | (leave1; (try dsimp only)))
      rename Fr _ _ _ _ => F3
      rename News _ _ _ _ => N3
      exact te_next (-(j : Int) - 1, _) ⟨⟨j + 1, by dsimp only; omega, hP'⟩, by dsimp only; omega⟩ F3 N3 (by walk_at "K") (fun _ h => h) (fun _ h => nomatch h)
    case done =>
      rintro ⟨post, tk1⟩ u h2 tk2 ⟨j, hj, hP⟩ hT F2 N2
      dsimp only at hj hP F2 N2 hT ⊢
      subst hj
      have ej : (- -(j : Int)).toNat = j := by omega
      rw [ej] at hT
      have hq := preAt_end hP hT
      rename News _ _ _ _ => N2
      walk1
      refine cut_se F2 N2 (fun m' => ∃ t2, ∀ p ∈ [(Str.ofString "a", Value.str (ofL (cut (x.drop k) j)) t2), (Str.ofString "post", Value.int (-(j : Int)) tk1), (Str.ofString "max_cost", Value.int n tn), (Str.ofString "b", Value.str (ofL (y.drop k)) tb)], m' p.1 = some p.2) ?sa ?ra
      case sa =>
        rcases Nat.eq_zero_or_pos j with rfl | hj0
        · repeat' (first | (k_unfold; (try dsimp only)) | ((fail_if_success (with_reducible show wpAny _ _ (exec (Stmt.While _ _ _ _) _) _ _ _)); (fail_if_success (with_reducible show wpAny _ _ (exec (Stmt.For _ _ _ _ _) _) _ _ _)); (fail_if_success (with_reducible show wpAny _ _ (pyIter _) _ _ _)); first | walk1 | (dsimp only; walk1)) | (leave1; (try dsimp only)))
          rename Fr _ _ _ _ => F3
          rename News _ _ _ _ => N3
          rw [slice_all] at F3
          rw [cut_zero]
          exact se_intro F3 N3 ⟨_, by walk_at "K"⟩
        · repeat' (first | (k_unfold; (try dsimp only)) | ((fail_if_success (with_reducible show wpAny _ _ (exec (Stmt.While _ _ _ _) _) _ _ _)); (fail_if_success (with_reducible show wpAny _ _ (exec (Stmt.For _ _ _ _ _) _) _ _ _)); (fail_if_success (with_reducible show wpAny _ _ (pyIter _) _ _ _)); first | walk1 | (dsimp only; walk1)) | (leave1; (try dsimp only)))
          · rename Fr _ _ _ _ => F3
            rename News _ _ _ _ => N3
            rw [cut_slice _ _ hj0] at F3
            exact se_intro F3 N3 ⟨_, by walk_at "K"⟩
          · exfalso; omega
      case ra =>
        intro h3 tk3 u3 F3 N3 ⟨t2, hC⟩
        have F4 := fr_norm _ F3 hC
        clear F3 hC F2 N2
        dsimp only
        walk1
        refine cut_se F4 N3 (fun m' => ∃ t3, ∀ p ∈ [(Str.ofString "max_cost", Value.int n tn), (Str.ofString "b", Value.str (ofL (cut (y.drop k) j)) t3), (Str.ofString "a", Value.str (ofL (cut (x.drop k) j)) t2)], m' p.1 = some p.2) ?sb ?rb
        case sb =>
          rcases Nat.eq_zero_or_pos j with rfl | hj0
          · repeat' (first | (k_unfold; (try dsimp only)) | ((fail_if_success (with_reducible show wpAny _ _ (exec (Stmt.While _ _ _ _) _) _ _ _)); (fail_if_success (with_reducible show wpAny _ _ (exec (Stmt.For _ _ _ _ _) _) _ _ _)); (fail_if_success (with_reducible show wpAny _ _ (pyIter _) _ _ _)); first | walk1 | (dsimp only; walk1)) | (leave1; (try dsimp only)))
            rename Fr _ _ _ _ => F3
            rename News _ _ _ _ => N3
            rw [slice_all] at F3
            simp only [cut_zero] at F3 ⊢
            exact se_intro F3 N3 ⟨_, by walk_at "K"⟩
          · repeat' (first | (k_unfold; (try dsimp only)) | ((fail_if_success (with_reducible show wpAny _ _ (exec (Stmt.While _ _ _ _) _) _ _ _)); (fail_if_success (with_reducible show wpAny _ _ (exec (Stmt.For _ _ _ _ _) _) _ _ _)); (fail_if_success (with_reducible show wpAny _ _ (pyIter _) _ _ _)); first | walk1 | (dsimp only; walk1)) | (leave1; (try dsimp only)))
            · rename Fr _ _ _ _ => F3
              rename News _ _ _ _ => N3
              rw [cut_slice _ _ hj0] at F3
              exact se_intro F3 N3 ⟨_, by walk_at "K"⟩
            · exfalso; omega
        case rb =>
          intro h4 tk4 u4 F5 N5 ⟨t3, hC⟩
          clear F4 N3
          dsimp only
          have hl : levL x y n = core (cut (x.drop k) j) (cut (y.drop k) j) n := by
            unfold levL
            rw [if_neg hxy]
            dsimp only
            rw [← hk, ← hq]
          rw [hl] at hret
          have la := Nat.le_trans (cut_le (x.drop k) j) (Nat.le_trans (List.drop_sublist k x).length_le hx)
          have lb := Nat.le_trans (cut_le (y.drop k) j) (Nat.le_trans (List.drop_sublist k y).length_le hy)
          rename Below _ _ _ _ => Bb
          rename Frag.In _ _ => Xb
          rename Top _ _ _ _ _ _ => Tb
          refine lev_core w p loose mean mg mb news (cut (x.drop k) j) (cut (y.drop k) j) t2 t3 n tn la lb h0 hn (dp + 1) (un + 3) gd _ _ _ _ _ u4 _ _ (fun r s' => match r with | .ok (.ret v) => Q v s' | .ok _ => False | .error e => E e s') Bb ?kF ?kC Xb ?kN Tb (by omega) (by omega) ?kQ
          case kF => exact F5
          case kC => exact hC
          case kN => exact N5
          rintro f h' tk' m' news' ⟨t9, rfl, rfl⟩ F6 N6
          k_unfold
          dsimp only
          walk1
          exact cb_retI (x := core (cut (x.drop k) j) (cut (y.drop k) j) n) hret rfl (by k_asm) (by k_asm)
set_option maxHeartbeats 4000000 in
theorem all9 (q9 : Vt9) : Sp9 q9 := by
  refine @eps_all Vt9 ne9 Sp9 ?_ q9
  have h := core9
  unfold w p loose mean mg mb news x y t t' n tn dp un gd cn cs a0 ccd cl outr A₀ base h₀ L m s Q E at h
  exact h
end lev_ct_e
set_option maxHeartbeats 4000000 in
theorem lev_ct (w : World) (p : Program) (loose : List Str) (mean : ExcName → Option Value) (mg mb : Str → Option Value) (news : CbLed) (x y : List Nat) (t : CbTok) (t' : CbTok) (n : Int) (tn : CbTok) (hx : x.length ≤ 40) (hy : y.length ≤ 40) (h0 : 0 ≤ n) (hn : n ≤ 1000): Ct w p loose mean mg mb 10 35 news [.str (ofL x) t, .str (ofL y) t', .int n tn] (fun t => .int (levL x y n) t) := by
  intro dp un gd cn cs a0 ccd cl outr A₀ base h₀ L m s Q E
  have h := lev_ct_e.all9 (w, p, loose, mean, mg, mb, news, x, y, t, t', n, tn, dp, un, gd, cn, cs, a0, ccd, cl, outr, A₀, base, h₀, L, m, s, Q, E)
  dsimp only [lev_ct_e.Sp9, lev_ct_e.St9] at h
  exact h hx hy h0 hn
end Mine
end
section
open PySem PySem.W PyProof.Rows PySem.Calls PySem.Spec
namespace Mine
namespace ell_rest_e
def St9 (w : World) (p : Program) (loose : List Str) (mean : ExcName → Option Value) (mg : Str → Option Value) (mb : Str → Option Value) (news : CbLed) (D : Addr) (cc : Nat) (G : List Nat) (te : Tok) (ts : Tok) (tg : Tok) (dp : Nat) (un : Nat) (gd : Option (List Code)) (outr : List Env) (A₀ : Around) (base : Heap) (h₀ : Heap) (L : Addr) (u : Str → Option Value) (s : Shared) (Q : Flow → Shared → Prop) (R : Result → Shared → Prop) : Prop :=
  ∀ (l : List (List Nat × Tok)), (2 ≤ l.length) → (l.length ≤ 50) → (∀ p ∈ l, p.1.length ≤ 100) → (G.length ≤ 40) → (∀ p ∈ news, p.1 ≠ D) → PieB w p loose mean mg mb 6 (Str.ofString "_ellipsis_match") ellS 42 (.ref 41) (ellBd.drop 4)
      (fun u => ∀ p ∈ [(Str.ofString "endpos", Value.int (G.length : Int) te), (Str.ofString "startpos", Value.int 0 ts), (Str.ofString "ws", Value.ref D), (Str.ofString "got", Value.str (ofL G) tg)], u p.1 = some p.2) ((D, listOf (valsL l).toArray cc) :: news)
      (fun f _ news' => f = .ret (.bool (ellL (l.map (·.1)) G)) ∧ news' = news) dp un gd outr A₀ base h₀ L u s Q R
abbrev Vt9 : Type := World × Program × (List Str) × (ExcName → Option Value) × (Str → Option Value) × (Str → Option Value) × CbLed × Addr × Nat × (List Nat) × Tok × Tok × Tok × Nat × Nat × (Option (List Code)) × (List Env) × Around × Heap × Heap × Addr × (Str → Option Value) × Shared × (Flow → Shared → Prop) × (Result → Shared → Prop)
theorem ne9 : Nonempty Vt9 := by
  obtain ⟨w0⟩ := neW
  exact ⟨w0, default, [], (fun _ => none), (fun _ => none), (fun _ => none), [], 0, 0, [], 0, 0, 0, 0, 0, none, [], callerA, {}, {}, 0, (fun _ => none), {}, (fun _ _ => True), (fun _ _ => True)⟩
def Sp9 (t : Vt9) : Prop := St9 (t.1) (t.2.1) (t.2.2.1) (t.2.2.2.1) (t.2.2.2.2.1) (t.2.2.2.2.2.1) (t.2.2.2.2.2.2.1) (t.2.2.2.2.2.2.2.1) (t.2.2.2.2.2.2.2.2.1) (t.2.2.2.2.2.2.2.2.2.1) (t.2.2.2.2.2.2.2.2.2.2.1) (t.2.2.2.2.2.2.2.2.2.2.2.1) (t.2.2.2.2.2.2.2.2.2.2.2.2.1) (t.2.2.2.2.2.2.2.2.2.2.2.2.2.1) (t.2.2.2.2.2.2.2.2.2.2.2.2.2.2.1) (t.2.2.2.2.2.2.2.2.2.2.2.2.2.2.2.1) (t.2.2.2.2.2.2.2.2.2.2.2.2.2.2.2.2.1) (t.2.2.2.2.2.2.2.2.2.2.2.2.2.2.2.2.2.1) (t.2.2.2.2.2.2.2.2.2.2.2.2.2.2.2.2.2.2.1) (t.2.2.2.2.2.2.2.2.2.2.2.2.2.2.2.2.2.2.2.1) (t.2.2.2.2.2.2.2.2.2.2.2.2.2.2.2.2.2.2.2.2.1) (t.2.2.2.2.2.2.2.2.2.2.2.2.2.2.2.2.2.2.2.2.2.1) (t.2.2.2.2.2.2.2.2.2.2.2.2.2.2.2.2.2.2.2.2.2.2.1) (t.2.2.2.2.2.2.2.2.2.2.2.2.2.2.2.2.2.2.2.2.2.2.2.1) (t.2.2.2.2.2.2.2.2.2.2.2.2.2.2.2.2.2.2.2.2.2.2.2.2)
noncomputable def c9 : Vt9 := @Classical.epsilon Vt9 ne9 fun t => ¬ Sp9 t
@[irreducible] noncomputable def w : World := c9.1
@[irreducible] noncomputable def p : Program := c9.2.1
@[irreducible] noncomputable def loose : List Str := c9.2.2.1
@[irreducible] noncomputable def mean : ExcName → Option Value := c9.2.2.2.1
@[irreducible] noncomputable def mg : Str → Option Value := c9.2.2.2.2.1
@[irreducible] noncomputable def mb : Str → Option Value := c9.2.2.2.2.2.1
@[irreducible] noncomputable def news : CbLed := c9.2.2.2.2.2.2.1
@[irreducible] noncomputable def D : Addr := c9.2.2.2.2.2.2.2.1
@[irreducible] noncomputable def cc : Nat := c9.2.2.2.2.2.2.2.2.1
@[irreducible] noncomputable def G : List Nat := c9.2.2.2.2.2.2.2.2.2.1
@[irreducible] noncomputable def te : Tok := c9.2.2.2.2.2.2.2.2.2.2.1
@[irreducible] noncomputable def ts : Tok := c9.2.2.2.2.2.2.2.2.2.2.2.1
@[irreducible] noncomputable def tg : Tok := c9.2.2.2.2.2.2.2.2.2.2.2.2.1
@[irreducible] noncomputable def dp : Nat := c9.2.2.2.2.2.2.2.2.2.2.2.2.2.1
@[irreducible] noncomputable def un : Nat := c9.2.2.2.2.2.2.2.2.2.2.2.2.2.2.1
@[irreducible] noncomputable def gd : Option (List Code) := c9.2.2.2.2.2.2.2.2.2.2.2.2.2.2.2.1
@[irreducible] noncomputable def outr : List Env := c9.2.2.2.2.2.2.2.2.2.2.2.2.2.2.2.2.1
@[irreducible] noncomputable def A₀ : Around := c9.2.2.2.2.2.2.2.2.2.2.2.2.2.2.2.2.2.1
@[irreducible] noncomputable def base : Heap := c9.2.2.2.2.2.2.2.2.2.2.2.2.2.2.2.2.2.2.1
@[irreducible] noncomputable def h₀ : Heap := c9.2.2.2.2.2.2.2.2.2.2.2.2.2.2.2.2.2.2.2.1
@[irreducible] noncomputable def L : Addr := c9.2.2.2.2.2.2.2.2.2.2.2.2.2.2.2.2.2.2.2.2.1
@[irreducible] noncomputable def u : Str → Option Value := c9.2.2.2.2.2.2.2.2.2.2.2.2.2.2.2.2.2.2.2.2.2.1
@[irreducible] noncomputable def s : Shared := c9.2.2.2.2.2.2.2.2.2.2.2.2.2.2.2.2.2.2.2.2.2.2.1
@[irreducible] noncomputable def Q : Flow → Shared → Prop := c9.2.2.2.2.2.2.2.2.2.2.2.2.2.2.2.2.2.2.2.2.2.2.2.1
@[irreducible] noncomputable def R : Result → Shared → Prop := c9.2.2.2.2.2.2.2.2.2.2.2.2.2.2.2.2.2.2.2.2.2.2.2.2
set_option maxRecDepth 100000 in
set_option maxHeartbeats 8000000 in
theorem core9 : St9 w p loose mean mg mb news D cc G te ts tg dp un gd outr A₀ base h₀ L u s Q R := by
  unfold St9 PieB P0
  k_fill
  intro l hl hl2 hw hG off B F hm X N T hd hu hQ
  have F1 := fr_norm _ F hm
  clear F hm
  have e1 : Str.length (ofL G) = G.length := ofL_len G
  match l, hl with
  | (f, tf) :: r, hl =>
  have e2 : Str.length (ofL f) = f.length := ofL_len f
  have hf := hw (f, tf) (.head _)
  dsimp only at hf
  show wpAny (model Challenge.rw_sn0024_01.row.prog w) _ (execs [_, _, _, _, _, _, _] _) _ _ _
  repeat' (first | (k_unfold; (try dsimp only)) | ((fail_if_success (with_reducible show wpAny _ _ (exec (Stmt.While _ _ _ _) _) _ _ _)); (fail_if_success (with_reducible show wpAny _ _ (exec (Stmt.For _ _ _ _ _) _) _ _ _)); (fail_if_success (with_reducible show wpAny _ _ (pyIter _) _ _ _)); (fail_if_success (with_reducible show wpAny _ _ (subscriptTail _ _ (Value.ref _) (Value.int _ _)) _ _ _)); first | walk1 | (dsimp only; walk1)) | (leave1; (try dsimp only)))
  refine item_at N (.head _) (by decide) (by decide) rfl ?_
  dsimp only
  repeat' (first | (k_unfold; (try dsimp only)) | ((fail_if_success (with_reducible show wpAny _ _ (exec (Stmt.While _ _ _ _) _) _ _ _)); (fail_if_success (with_reducible show wpAny _ _ (exec (Stmt.For _ _ _ _ _) _) _ _ _)); (fail_if_success (with_reducible show wpAny _ _ (pyIter _) _ _ _)); (fail_if_success (with_reducible show wpAny _ _ (exec (Stmt.If _ _ _ (Pos.mk 61 _ _ _)) _) _ _ _)); first | walk1 | (dsimp only; walk1)) | (leave1; (try dsimp only)))
  rename Fr _ _ _ _ => F2
  rename News _ _ _ _ => N2
  refine cut_ce (σ := List (List Nat × Tok) × Nat × Nat × Tok) F2 N2 (fun c => (D, listOf (valsL c.1).toArray c.2.2.1) :: news) (fun c => [(Str.ofString "endpos", Value.int (G.length : Int) te), (Str.ofString "startpos", Value.int (c.2.1 : Int) c.2.2.2), (Str.ofString "ws", Value.ref D), (Str.ofString "got", Value.str (ofL G) tg)]) (fun c => ellA (((f, tf) :: r).map (·.1)) G = some (c.2.1, c.1.map (·.1)) ∧ 1 ≤ c.1.length ∧ c.1.length ≤ 50 ∧ ∀ p ∈ c.1, p.1.length ≤ 100) ?A ?B
  case A =>
    repeat' (first | (k_unfold; (try dsimp only)) | ((fail_if_success (with_reducible show wpAny _ _ (exec (Stmt.While _ _ _ _) _) _ _ _)); (fail_if_success (with_reducible show wpAny _ _ (exec (Stmt.For _ _ _ _ _) _) _ _ _)); (fail_if_success (with_reducible show wpAny _ _ (pyIter _) _ _ _)); (fail_if_success (with_reducible show wpAny _ _ (delItem (Value.ref _) (Value.int _ _)) _ _ _)); first | walk1 | (dsimp only; walk1)) | (leave1; (try dsimp only)))
    · rename Fr _ _ _ _ => F3
      rename News _ _ _ _ => N3
      rename Txt.startswith _ _ = true => hst
      refine del_at (j := 0) F3 N3 off (by decide) (seq_zero (by rw [valsL_len]; omega)) (by rw [valsL_len]; omega) ?_
      intro h4 n4 F4 N4
      rw [valsL_tail] at N4
      dsimp only
      repeat' (first | (k_unfold; (try dsimp only)) | ((fail_if_success (with_reducible show wpAny _ _ (exec (Stmt.While _ _ _ _) _) _ _ _)); (fail_if_success (with_reducible show wpAny _ _ (exec (Stmt.For _ _ _ _ _) _) _ _ _)); (fail_if_success (with_reducible show wpAny _ _ (pyIter _) _ _ _)); first | walk1 | (dsimp only; walk1)) | (leave1; (try dsimp only)))
      rename Fr _ _ _ _ => F5
      rename News _ _ _ _ => N5
      rw [e2] at F5
      rw [List.length_cons] at hl hl2
      have hfne : f.length ≠ 0 := by omega
      exact ce_next (r, f.length, n4, _) ⟨ellA_yes (f := f) (r := r.map fun z : List Nat × Tok => z.1) hfne hst, by dsimp only; omega, by dsimp only; omega, fun p hp => hw p (.tail _ hp)⟩ F5 N5 (by walk_at "K") (fun _ h => h)
    · rename Fr _ _ _ _ => F3
      rename News _ _ _ _ => N3
      rename Txt.startswith _ _ = false => hst
      have hfne : f.length ≠ 0 := by omega
      exact hQ _ _ _ _ news ⟨congrArg (fun z => Flow.ret (Value.bool z)) (ellA_no (f := f) (r := r.map fun z : List Nat × Tok => z.1) hfne hst).symm, rfl⟩ F3 (kst_newsOf N3 fun p hp => .tail _ hp)
    · rename Fr _ _ _ _ => F3
      rename News _ _ _ _ => N3
      have hf0 : f = [] := List.eq_nil_of_length_eq_zero (by omega)
      subst hf0
      exact ce_next (([], tf) :: r, 0, cc, _) ⟨rfl, by simp, hl2, hw⟩ F3 N3 (by walk_at "K") (fun _ h => h)
  case B =>
    rintro ⟨l1, sp, c1, tsp⟩ h3 tk3 u3 ⟨hA, hn1, hn2, hw1⟩ F3 N3
    dsimp only at hA hn1 hn2 hw1 F3 N3 ⊢
    clear F2 N2 hw hl hl2 hf e2
    obtain ⟨⟨f2, tf2⟩, hlast⟩ : ∃ z, l1.getLast? = some z := by
      cases e : l1.getLast? with
      | none => rw [List.getLast?_eq_none_iff] at e; rw [e] at hn1; simp at hn1
      | some z => exact ⟨z, rfl⟩
    have hm2 : (l1.map (·.1)).getLast? = some f2 := by rw [List.getLast?_map, hlast]; rfl
    have hf2 := hw1 (f2, tf2) (List.mem_of_getLast? hlast)
    dsimp only at hf2
    have e3 : Str.length (ofL f2) = f2.length := ofL_len f2
    repeat' (first | (k_unfold; (try dsimp only)) | ((fail_if_success (with_reducible show wpAny _ _ (exec (Stmt.While _ _ _ _) _) _ _ _)); (fail_if_success (with_reducible show wpAny _ _ (exec (Stmt.For _ _ _ _ _) _) _ _ _)); (fail_if_success (with_reducible show wpAny _ _ (pyIter _) _ _ _)); (fail_if_success (with_reducible show wpAny _ _ (subscriptTail _ _ (Value.ref _) (Value.int _ _)) _ _ _)); first | walk1 | (dsimp only; walk1)) | (leave1; (try dsimp only)))
    refine item_last N3 (.head _) (valsL_getLast hlast) ?_
    dsimp only
    repeat' (first | (k_unfold; (try dsimp only)) | ((fail_if_success (with_reducible show wpAny _ _ (exec (Stmt.While _ _ _ _) _) _ _ _)); (fail_if_success (with_reducible show wpAny _ _ (exec (Stmt.For _ _ _ _ _) _) _ _ _)); (fail_if_success (with_reducible show wpAny _ _ (pyIter _) _ _ _)); (fail_if_success (with_reducible show wpAny _ _ (exec (Stmt.If _ _ _ (Pos.mk 68 _ _ _)) _) _ _ _)); first | walk1 | (dsimp only; walk1)) | (leave1; (try dsimp only)))
    rename Fr _ _ _ _ => F4
    rename News _ _ _ _ => N4
    refine cut_ce (σ := List (List Nat × Tok) × Nat × Nat × Tok) F4 N4 (fun c => (D, listOf (valsL c.1).toArray c.2.2.1) :: news) (fun c => [(Str.ofString "endpos", Value.int (c.2.1 : Int) c.2.2.2), (Str.ofString "startpos", Value.int (sp : Int) tsp), (Str.ofString "ws", Value.ref D), (Str.ofString "got", Value.str (ofL G) tg)]) (fun c => ellB (l1.map (·.1)) G = some (c.2.1, c.1.map (·.1)) ∧ c.2.1 ≤ G.length ∧ c.1.length ≤ 50 ∧ ∀ p ∈ c.1, p.1.length ≤ 100) ?A2 ?B2
    case A2 =>
      repeat' (first | (k_unfold; (try dsimp only)) | ((fail_if_success (with_reducible show wpAny _ _ (exec (Stmt.While _ _ _ _) _) _ _ _)); (fail_if_success (with_reducible show wpAny _ _ (exec (Stmt.For _ _ _ _ _) _) _ _ _)); (fail_if_success (with_reducible show wpAny _ _ (pyIter _) _ _ _)); (fail_if_success (with_reducible show wpAny _ _ (delItem (Value.ref _) (Value.int _ _)) _ _ _)); first | walk1 | (dsimp only; walk1)) | (leave1; (try dsimp only)))
      · rename Fr _ _ _ _ => F5
        rename News _ _ _ _ => N5
        rename Txt.endswith _ _ = true => hst
        obtain ⟨hB, hle⟩ := ellB_yes hm2 (by omega) hst
        refine del_at (j := l1.length - 1) F5 N5 off (by decide) (by rw [valsL_len]; exact seq_last (by omega)) (by rw [valsL_len]; omega) ?_
        intro h6 n6 F6 N6
        rw [valsL_last] at N6
        dsimp only
        repeat' (first | (k_unfold; (try dsimp only)) | ((fail_if_success (with_reducible show wpAny _ _ (exec (Stmt.While _ _ _ _) _) _ _ _)); (fail_if_success (with_reducible show wpAny _ _ (exec (Stmt.For _ _ _ _ _) _) _ _ _)); (fail_if_success (with_reducible show wpAny _ _ (pyIter _) _ _ _)); first | walk1 | (dsimp only; walk1)) | (leave1; (try dsimp only)))
        rename Fr _ _ _ _ => F7
        rename News _ _ _ _ => N7
        rw [← List.map_dropLast] at hB
        have ez : ((G.length : Int) - (ofL f2).length) = ((G.length - f2.length : Nat) : Int) := by omega
        rw [ez] at F7
        exact ce_next (l1.dropLast, G.length - f2.length, n6, _) ⟨hB, by dsimp only; omega, by dsimp only; rw [List.length_dropLast]; omega, fun p hp => hw1 p (mem_dropLast' hp)⟩ F7 N7 (by walk_at "K") (fun _ h => h)
      · rename Fr _ _ _ _ => F5
        rename News _ _ _ _ => N5
        rename Txt.endswith _ _ = false => hst
        exact hQ _ _ _ _ news ⟨congrArg (fun z => Flow.ret (Value.bool z)) (ellB_no hA hm2 (by omega) hst).symm, rfl⟩ F5 (kst_newsOf N5 fun p hp => .tail _ hp)
      · rename Fr _ _ _ _ => F5
        rename News _ _ _ _ => N5
        have hf0 : f2 = [] := List.eq_nil_of_length_eq_zero (by omega)
        rw [hf0] at hm2
        exact ce_next (l1, G.length, c1, _) ⟨ellB_nil hm2, Nat.le_refl _, hn2, hw1⟩ F5 N5 (by walk_at "K") (fun _ h => h)
    case B2 =>
      rintro ⟨l2, ep, c2, tep⟩ h5 tk5 u5 ⟨hB, hep, hn3, hw2⟩ F5 N5
      dsimp only at hB hep hn3 hw2 F5 N5 ⊢
      rw [ellL_ab hA hB] at hQ
      repeat' (first | (k_unfold; (try dsimp only)) | ((fail_if_success (with_reducible show wpAny _ _ (exec (Stmt.While _ _ _ _) _) _ _ _)); (fail_if_success (with_reducible show wpAny _ _ (exec (Stmt.For _ _ _ _ _) _) _ _ _)); (fail_if_success (with_reducible show wpAny _ _ (pyIter _) _ _ _)); first | walk1 | (dsimp only; walk1)) | (leave1; (try dsimp only)))
      · rename Fr _ _ _ _ => F6
        rename News _ _ _ _ => N6
        dsimp only
        exact hQ _ _ _ _ news ⟨congrArg (fun z => Flow.ret (Value.bool z)) (by rw [if_pos (by omega)]), rfl⟩ F6 (kst_newsOf N6 fun p hp => .tail _ hp)
      · rw [if_neg (by omega)] at hQ
        rename Fr _ _ _ _ => F6
        rename News _ _ _ _ => N6
        with_unfolding_all refine' For_invVF F6 ?k1 ?k2 ?_
        case k1 => exact rfl
        case k2 => exact rfl
        repeat' (first | (k_unfold; (try dsimp only)) | ((fail_if_success (with_reducible show wpAny _ _ (exec (Stmt.While _ _ _ _) _) _ _ _)); (fail_if_success (with_reducible show wpAny _ _ (exec (Stmt.For _ _ _ _ _) _) _ _ _)); (fail_if_success (with_reducible show wpAny _ _ (pyIter _) _ _ _)); first | walk1 | (dsimp only; walk1)) | (leave1; (try dsimp only)))
        rename Fr _ _ _ _ => F7
        rename News _ _ _ _ => N7
        refine lst (σ := Nat × Tok) (vs := valsL l2) (nn := c2) (fun _ => (D, listOf (valsL l2).toArray c2) :: news) (fun c => [(Str.ofString "endpos", Value.int (ep : Int) tep), (Str.ofString "startpos", Value.int (c.1 : Int) c.2), (Str.ofString "ws", Value.ref D), (Str.ofString "got", Value.str (ofL G) tg)]) (fun i c => ellC G ep ((l2.drop i).map (·.1)) c.1 = ellC G ep (l2.map (·.1)) sp)
          (sp, tsp) rfl (fun _ => .head _) F7 N7 (by walk_at "K") rfl (fun _ _ _ => rfl) ?turn ?done
        case turn =>
          rintro i ⟨q, tq⟩ u8 v h8 tk8 own hi hoff hP F8 N8
          clear F7 N7
          dsimp only at hP F8 N8
          obtain ⟨f3, t3, hi3, rfl⟩ := valsL_get hi
          have hP2 := ellC_go hP hi3
          have hf3 := hw2 _ (List.mem_of_getElem? hi3)
          dsimp only at hf3
          have e4 : Str.length (ofL f3) = f3.length := ofL_len f3
          repeat' (first | (k_unfold; (try dsimp only)) | ((fail_if_success (with_reducible show wpAny _ _ (exec (Stmt.While _ _ _ _) _) _ _ _)); (fail_if_success (with_reducible show wpAny _ _ (exec (Stmt.For _ _ _ _ _) _) _ _ _)); (fail_if_success (with_reducible show wpAny _ _ (pyIter _) _ _ _)); (fail_if_success (with_reducible show wpAny _ _ (call (Value.builtin "str.find") _) _ _ _)); first | walk1 | (dsimp only; walk1)) | (leave1; (try dsimp only)))
          refine call_find4 hep ?_
          cases hf : findL G f3 q ep with
          | none =>
            rw [hf] at hP2
            dsimp only at hP2 ⊢
            repeat' (first | (k_unfold; (try dsimp only)) | ((fail_if_success (with_reducible show wpAny _ _ (exec (Stmt.While _ _ _ _) _) _ _ _)); (fail_if_success (with_reducible show wpAny _ _ (exec (Stmt.For _ _ _ _ _) _) _ _ _)); (fail_if_success (with_reducible show wpAny _ _ (pyIter _) _ _ _)); first | walk1 | (dsimp only; walk1)) | (leave1; (try dsimp only)))
            rename Fr _ _ _ _ => F9
            rename News _ _ _ _ => N9
            exact hQ _ _ _ _ news ⟨congrArg (fun z => Flow.ret (Value.bool z)) hP2, rfl⟩ F9 (kst_newsOf N9 fun p hp => .tail _ (List.mem_append_left own hp))
          | some k =>
            rw [hf] at hP2
            dsimp only at hP2 ⊢
            repeat' (first | (k_unfold; (try dsimp only)) | ((fail_if_success (with_reducible show wpAny _ _ (exec (Stmt.While _ _ _ _) _) _ _ _)); (fail_if_success (with_reducible show wpAny _ _ (exec (Stmt.For _ _ _ _ _) _) _ _ _)); (fail_if_success (with_reducible show wpAny _ _ (pyIter _) _ _ _)); first | walk1 | (dsimp only; walk1)) | (leave1; (try dsimp only)))
            rename Fr _ _ _ _ => F9
            rename News _ _ _ _ => N9
            have ez : ((k : Int) + (ofL f3).length) = ((k + f3.length : Nat) : Int) := by omega
            rw [ez] at F9
            exact te_next (k + f3.length, _) hP2 F9 N9 (by walk_at "K") (fun p hp => (List.mem_append_left own hp : p ∈ (_ :: news) ++ own)) (fun p hp => (List.mem_append_right _ hp : p ∈ (_ :: news) ++ own))
        case done =>
          rintro ⟨q, tq⟩ u8 h8 tk8 hP F8 N8
          clear F7 N7
          dsimp only at hP F8 N8
          repeat' (first | (k_unfold; (try dsimp only)) | ((fail_if_success (with_reducible show wpAny _ _ (exec (Stmt.While _ _ _ _) _) _ _ _)); (fail_if_success (with_reducible show wpAny _ _ (exec (Stmt.For _ _ _ _ _) _) _ _ _)); (fail_if_success (with_reducible show wpAny _ _ (pyIter _) _ _ _)); first | walk1 | (dsimp only; walk1)) | (leave1; (try dsimp only)))
          rename Fr _ _ _ _ => F9
          rename News _ _ _ _ => N9
          rw [valsL_len, List.drop_length] at hP
          dsimp only
          exact hQ _ _ _ _ news ⟨congrArg (fun z => Flow.ret (Value.bool z)) hP, rfl⟩ F9 (kst_newsOf N9 fun p hp => .tail _ hp)
set_option maxHeartbeats 4000000 in
theorem all9 (q9 : Vt9) : Sp9 q9 := by
  refine @eps_all Vt9 ne9 Sp9 ?_ q9
  have h := core9
  unfold w p loose mean mg mb news D cc G te ts tg dp un gd outr A₀ base h₀ L u s Q R at h
  exact h
end ell_rest_e
set_option maxHeartbeats 4000000 in
theorem ell_rest (w : World) (p : Program) (loose : List Str) (mean : ExcName → Option Value) (mg mb : Str → Option Value) (news : CbLed) (D : Addr) (l : List (List Nat × Tok)) (cc : Nat) (G : List Nat) (te ts tg : Tok) (hl : 2 ≤ l.length) (hl2 : l.length ≤ 50) (hw : ∀ p ∈ l, p.1.length ≤ 100) (hG : G.length ≤ 40) (off : ∀ p ∈ news, p.1 ≠ D) : Pie w p loose mean mg mb 6 (Str.ofString "_ellipsis_match") ellS 42 (.ref 41) (ellBd.drop 4)
      (fun u => ∀ p ∈ [(Str.ofString "endpos", Value.int (G.length : Int) te), (Str.ofString "startpos", Value.int 0 ts), (Str.ofString "ws", Value.ref D), (Str.ofString "got", Value.str (ofL G) tg)], u p.1 = some p.2) ((D, listOf (valsL l).toArray cc) :: news)
      (fun f _ news' => f = .ret (.bool (ellL (l.map (·.1)) G)) ∧ news' = news) := by
  intro dp un gd outr A₀ base h₀ L u s Q R
  have h := ell_rest_e.all9 (w, p, loose, mean, mg, mb, news, D, cc, G, te, ts, tg, dp, un, gd, outr, A₀, base, h₀, L, u, s, Q, R)
  dsimp only [ell_rest_e.Sp9, ell_rest_e.St9] at h
  exact h l hl hl2 hw hG off
end Mine
end
section
open PySem PySem.W PyProof.Rows PySem.Calls PySem.Spec
namespace Mine
set_option maxRecDepth 100000 in
set_option maxHeartbeats 8000000 in
theorem ell_no (w : World) (p : Program) (loose : List Str) (mean : ExcName → Option Value) (mg mb : Str → Option Value) (news : CbLed) (x : List Nat) (y : Str) (t t' : CbTok) (hd : 46 ∉ x) : Ct w p loose mean mg mb 8 42 news [.str (ofL x) t, .str y t'] (fun _ => .bool (ofL x == y)) := by
  unfold Ct Ret P0
  k_fill
  intro dp un gd cn cs a0 ccd cl outr A₀ base h₀ L m s Q E hB hF hX hN hT hcs hdp hun hret
  have hc := no_dots hd
  refine wpAny_call ?_
  k_dflt cell_enter
  rename Fr _ _ _ _ => F0
  have F1 : Fr _ _ _ (kstB (fun _ => none) [(Str.ofString "got", Value.str y t'), (Str.ofString "want", Value.str (ofL x) t)]) := fr_open F0
  clear F0
  repeat' (first | (k_unfold; (try dsimp only)) | ((fail_if_success (with_reducible show wpAny _ _ (exec (Stmt.While _ _ _ _) _) _ _ _)); (fail_if_success (with_reducible show wpAny _ _ (exec (Stmt.For _ _ _ _ _) _) _ _ _)); (fail_if_success (with_reducible show wpAny _ _ (pyIter _) _ _ _)); (fail_if_success (with_reducible show wpAny _ _ (exec (Stmt.If _ _ _ (Pos.mk 58 _ _ _)) _) _ _ _)); (fail_if_success (with_reducible show wpAny _ _ (execs (List.cons (Stmt.Assign _ _ (Pos.mk 57 _ _ _)) _) _) _ _ _)); first | walk1 | (dsimp only; walk1)) | (leave1; (try dsimp only)))
  all_goals first
    | (exfalso; simp_all; done)
    | exact hret 0 _ _ (by k_asm) (by k_asm)
namespace ell_ct_e
def St9 (w : World) (p : Program) (loose : List Str) (mean : ExcName → Option Value) (mg : Str → Option Value) (mb : Str → Option Value) (news : CbLed) (t : CbTok) (t' : CbTok) (dp : Nat) (un : Nat) (gd : Option (List Code)) (cn : Str) (cs : Scope) (a0 : Addr) (ccd : Value) (cl : List (Str × Addr)) (outr : List Env) (A₀ : Around) (base : Heap) (h₀ : Heap) (L : Addr) (m : Str → Option Value) (s : Shared) (Q : Value → Shared → Prop) (E : Value → Shared → Prop) : Prop :=
  ∀ (ps : List (List Nat)), ∀ (G : List Nat), (2 ≤ ps.length) → (ps.length ≤ 50) → (∀ q ∈ ps, 46 ∉ q) → (∀ q ∈ ps, q.length ≤ 100) → ((joinD ps).length ≤ 1000) → (G.length ≤ 40) → CtB w p loose mean mg mb 8 42 news [.str (ofL (joinD ps)) t, .str (ofL G) t'] (fun _ => .bool (ellL ps G)) dp un gd cn cs a0 ccd cl outr A₀ base h₀ L m s Q E
abbrev Vt9 : Type := World × Program × (List Str) × (ExcName → Option Value) × (Str → Option Value) × (Str → Option Value) × CbLed × CbTok × CbTok × Nat × Nat × (Option (List Code)) × Str × Scope × Addr × Value × (List (Str × Addr)) × (List Env) × Around × Heap × Heap × Addr × (Str → Option Value) × Shared × (Value → Shared → Prop) × (Value → Shared → Prop)
theorem ne9 : Nonempty Vt9 := by
  obtain ⟨w0⟩ := neW
  exact ⟨w0, default, [], (fun _ => none), (fun _ => none), (fun _ => none), [], 0, 0, 0, 0, none, default, default, 0, .none, [], [], callerA, {}, {}, 0, (fun _ => none), {}, (fun _ _ => True), (fun _ _ => True)⟩
def Sp9 (t : Vt9) : Prop := St9 (t.1) (t.2.1) (t.2.2.1) (t.2.2.2.1) (t.2.2.2.2.1) (t.2.2.2.2.2.1) (t.2.2.2.2.2.2.1) (t.2.2.2.2.2.2.2.1) (t.2.2.2.2.2.2.2.2.1) (t.2.2.2.2.2.2.2.2.2.1) (t.2.2.2.2.2.2.2.2.2.2.1) (t.2.2.2.2.2.2.2.2.2.2.2.1) (t.2.2.2.2.2.2.2.2.2.2.2.2.1) (t.2.2.2.2.2.2.2.2.2.2.2.2.2.1) (t.2.2.2.2.2.2.2.2.2.2.2.2.2.2.1) (t.2.2.2.2.2.2.2.2.2.2.2.2.2.2.2.1) (t.2.2.2.2.2.2.2.2.2.2.2.2.2.2.2.2.1) (t.2.2.2.2.2.2.2.2.2.2.2.2.2.2.2.2.2.1) (t.2.2.2.2.2.2.2.2.2.2.2.2.2.2.2.2.2.2.1) (t.2.2.2.2.2.2.2.2.2.2.2.2.2.2.2.2.2.2.2.1) (t.2.2.2.2.2.2.2.2.2.2.2.2.2.2.2.2.2.2.2.2.1) (t.2.2.2.2.2.2.2.2.2.2.2.2.2.2.2.2.2.2.2.2.2.1) (t.2.2.2.2.2.2.2.2.2.2.2.2.2.2.2.2.2.2.2.2.2.2.1) (t.2.2.2.2.2.2.2.2.2.2.2.2.2.2.2.2.2.2.2.2.2.2.2.1) (t.2.2.2.2.2.2.2.2.2.2.2.2.2.2.2.2.2.2.2.2.2.2.2.2.1) (t.2.2.2.2.2.2.2.2.2.2.2.2.2.2.2.2.2.2.2.2.2.2.2.2.2)
noncomputable def c9 : Vt9 := @Classical.epsilon Vt9 ne9 fun t => ¬ Sp9 t
@[irreducible] noncomputable def w : World := c9.1
@[irreducible] noncomputable def p : Program := c9.2.1
@[irreducible] noncomputable def loose : List Str := c9.2.2.1
@[irreducible] noncomputable def mean : ExcName → Option Value := c9.2.2.2.1
@[irreducible] noncomputable def mg : Str → Option Value := c9.2.2.2.2.1
@[irreducible] noncomputable def mb : Str → Option Value := c9.2.2.2.2.2.1
@[irreducible] noncomputable def news : CbLed := c9.2.2.2.2.2.2.1
@[irreducible] noncomputable def t : CbTok := c9.2.2.2.2.2.2.2.1
@[irreducible] noncomputable def t' : CbTok := c9.2.2.2.2.2.2.2.2.1
@[irreducible] noncomputable def dp : Nat := c9.2.2.2.2.2.2.2.2.2.1
@[irreducible] noncomputable def un : Nat := c9.2.2.2.2.2.2.2.2.2.2.1
@[irreducible] noncomputable def gd : Option (List Code) := c9.2.2.2.2.2.2.2.2.2.2.2.1
@[irreducible] noncomputable def cn : Str := c9.2.2.2.2.2.2.2.2.2.2.2.2.1
@[irreducible] noncomputable def cs : Scope := c9.2.2.2.2.2.2.2.2.2.2.2.2.2.1
@[irreducible] noncomputable def a0 : Addr := c9.2.2.2.2.2.2.2.2.2.2.2.2.2.2.1
@[irreducible] noncomputable def ccd : Value := c9.2.2.2.2.2.2.2.2.2.2.2.2.2.2.2.1
@[irreducible] noncomputable def cl : List (Str × Addr) := c9.2.2.2.2.2.2.2.2.2.2.2.2.2.2.2.2.1
@[irreducible] noncomputable def outr : List Env := c9.2.2.2.2.2.2.2.2.2.2.2.2.2.2.2.2.2.1
@[irreducible] noncomputable def A₀ : Around := c9.2.2.2.2.2.2.2.2.2.2.2.2.2.2.2.2.2.2.1
@[irreducible] noncomputable def base : Heap := c9.2.2.2.2.2.2.2.2.2.2.2.2.2.2.2.2.2.2.2.1
@[irreducible] noncomputable def h₀ : Heap := c9.2.2.2.2.2.2.2.2.2.2.2.2.2.2.2.2.2.2.2.2.1
@[irreducible] noncomputable def L : Addr := c9.2.2.2.2.2.2.2.2.2.2.2.2.2.2.2.2.2.2.2.2.2.1
@[irreducible] noncomputable def m : Str → Option Value := c9.2.2.2.2.2.2.2.2.2.2.2.2.2.2.2.2.2.2.2.2.2.2.1
@[irreducible] noncomputable def s : Shared := c9.2.2.2.2.2.2.2.2.2.2.2.2.2.2.2.2.2.2.2.2.2.2.2.1
@[irreducible] noncomputable def Q : Value → Shared → Prop := c9.2.2.2.2.2.2.2.2.2.2.2.2.2.2.2.2.2.2.2.2.2.2.2.2.1
@[irreducible] noncomputable def E : Value → Shared → Prop := c9.2.2.2.2.2.2.2.2.2.2.2.2.2.2.2.2.2.2.2.2.2.2.2.2.2
set_option maxRecDepth 100000 in
set_option maxHeartbeats 8000000 in
theorem core9 : St9 w p loose mean mg mb news t t' dp un gd cn cs a0 ccd cl outr A₀ base h₀ L m s Q E := by
  unfold St9 CtB Ret P0
  k_fill
  intro ps G h2 h50 hp hp2 hW hG hB hF hX hN hT hcs hdp hun hret
  obtain ⟨hs, hc⟩ := split_join ps h2 hp
  have e1 : Str.length (ofL G) = G.length := ofL_len G
  refine wpAny_call ?_
  k_dflt cell_enter
  rename Fr _ _ _ _ => F0
  have F1 : Fr _ _ _ (kstB (fun _ => none) [(Str.ofString "got", Value.str (ofL G) t'), (Str.ofString "want", Value.str (ofL (joinD ps)) t)]) := fr_open F0
  clear F0
  repeat' (first | (k_unfold; (try dsimp only)) | ((fail_if_success (with_reducible show wpAny _ _ (exec (Stmt.While _ _ _ _) _) _ _ _)); (fail_if_success (with_reducible show wpAny _ _ (exec (Stmt.For _ _ _ _ _) _) _ _ _)); (fail_if_success (with_reducible show wpAny _ _ (pyIter _) _ _ _)); (fail_if_success (with_reducible show wpAny _ _ (call (Value.builtin "str.split") _) _ _ _)); first | walk1 | (dsimp only; walk1)) | (leave1; (try dsimp only)))
  · rename Fr _ _ _ _ => F2
    rename News _ _ _ _ => N2
    refine call_split F2 N2 hs (by decide +kernel) hW ?_
    intro D l h3 tk3 hl F3 N3 hlt
    clear F2 N2
    have hll : l.length = ps.length := by rw [← hl, List.length_map]
    dsimp only
    repeat' (first | (k_unfold; (try dsimp only)) | ((fail_if_success (with_reducible show wpAny _ _ (exec (Stmt.While _ _ _ _) _) _ _ _)); (fail_if_success (with_reducible show wpAny _ _ (exec (Stmt.For _ _ _ _ _) _) _ _ _)); (fail_if_success (with_reducible show wpAny _ _ (pyIter _) _ _ _)); (fail_if_success (with_reducible show wpAny _ _ (execs (List.cons (Stmt.Assign _ _ (Pos.mk 60 _ _ _)) _) _) _ _ _)); first | walk1 | (dsimp only; walk1)) | (leave1; (try dsimp only)))
    · rename Fr _ _ _ _ => F4
      rename News _ _ _ _ => N4
      refine len_at (vs := valsL l) N4 (.head _) (by rw [valsL_len]; omega) ?_
      rw [valsL_len, hll]
      dsimp only
      repeat' (first | (k_unfold; (try dsimp only)) | ((fail_if_success (with_reducible show wpAny _ _ (exec (Stmt.While _ _ _ _) _) _ _ _)); (fail_if_success (with_reducible show wpAny _ _ (exec (Stmt.For _ _ _ _ _) _) _ _ _)); (fail_if_success (with_reducible show wpAny _ _ (pyIter _) _ _ _)); (fail_if_success (with_reducible show wpAny _ _ (execs (List.cons (Stmt.Assign _ _ (Pos.mk 60 _ _ _)) _) _) _ _ _)); first | walk1 | (dsimp only; walk1)) | (leave1; (try dsimp only)))
      rename Fr _ _ _ _ => F5
      rename News _ _ _ _ => N5
      have N6 := kst_newsOf N5 (fun p (hp : p ∈ (D, listOf (valsL l).toArray 0) :: news) => .tail _ hp)
      clear N5
      obtain ⟨⟨te, ts⟩, F6⟩ := fr_get (fun c : Tok × Tok => [(Str.ofString "endpos", Value.int (G.length : Int) c.1), (Str.ofString "startpos", Value.int 0 c.2), (Str.ofString "ws", Value.ref D), (Str.ofString "got", Value.str (ofL G) t')]) F5 ⟨(_, _), by walk_at "K"⟩
      dsimp only at F6
      clear F5
      rename Below _ _ _ _ => Bb
      rename Frag.In _ _ => Xb
      rename Top _ _ _ _ _ _ => Tb
      refine ell_rest w p loose mean mg mb news D l 0 G te ts t' (by omega) (by omega) ?kw hG (fun p hp e => Nat.lt_irrefl D (by have := hlt p hp; rw [e] at this; exact this)) (dp + 1) (un + 3) gd _ _ _ _ _ _ _ _ (fun r s' => match r with | .ok (.ret v) => Q v s' | .ok _ => False | .error e => E e s') Bb F6 ?kC Xb N6 Tb (by omega) (by omega) ?kQ
      case kw =>
        intro q hq
        have : q.1 ∈ ps := by rw [← hl]; exact List.mem_map_of_mem hq
        exact hp2 _ this
      case kC => walk_at "K"
      rintro f h' tk' m' news' ⟨rfl, rfl⟩ F7 N7
      k_unfold
      dsimp only
      walk1
      rw [hl]
      exact hret 0 _ _ (by k_asm) (by k_asm)
set_option maxHeartbeats 4000000 in
theorem all9 (q9 : Vt9) : Sp9 q9 := by
  refine @eps_all Vt9 ne9 Sp9 ?_ q9
  have h := core9
  unfold w p loose mean mg mb news t t' dp un gd cn cs a0 ccd cl outr A₀ base h₀ L m s Q E at h
  exact h
end ell_ct_e
set_option maxHeartbeats 4000000 in
theorem ell_ct (w : World) (p : Program) (loose : List Str) (mean : ExcName → Option Value) (mg mb : Str → Option Value) (news : CbLed) (ps : List (List Nat)) (G : List Nat) (t t' : CbTok) (h2 : 2 ≤ ps.length) (h50 : ps.length ≤ 50) (hp : ∀ q ∈ ps, 46 ∉ q) (hp2 : ∀ q ∈ ps, q.length ≤ 100) (hW : (joinD ps).length ≤ 1000) (hG : G.length ≤ 40) : Ct w p loose mean mg mb 8 42 news [.str (ofL (joinD ps)) t, .str (ofL G) t'] (fun _ => .bool (ellL ps G)) := by
  intro dp un gd cn cs a0 ccd cl outr A₀ base h₀ L m s Q E
  have h := ell_ct_e.all9 (w, p, loose, mean, mg, mb, news, t, t', dp, un, gd, cn, cs, a0, ccd, cl, outr, A₀, base, h₀, L, m, s, Q, E)
  dsimp only [ell_ct_e.Sp9, ell_ct_e.St9] at h
  exact h ps G h2 h50 hp hp2 hW hG
end Mine
end
section
open PySem PySem.W PyProof.Rows PySem.Calls PySem.Spec
namespace Mine
abbrev accObj (dx : Addr) (vs : List Value) (n : Nat) : Obj := { cls := .ref 122, dict := some dx, data := .seq vs.toArray n }
abbrev accDict (w : World) (t1 t2 : Tok) : Obj := { cls := .type "dict", data := .dict #[{ hash := PyData.keyHash w.params (Str.ofString "_initial_size"), key := .str (Str.ofString "_initial_size") t1, val := .int 0 t2 }] 1 }
abbrev accObj0 (C dx : Addr) : Obj := { cls := .ref C, dict := some dx, data := .seq #[] }
abbrev tupObj (a b : Value) : Obj := { cls := .type "tuple", data := .seq #[a, b] }
/-- what a call of the def at f gives: the value and the ledger behind it -/
def Cg (w : World) (p : Program) (loose : List Str) (mean : ExcName → Option Value) (mg mb : Str → Option Value) (k : Nat) (f : Addr) (news : CbLed) (vs : List Value) (Post : Value → CbLed → Prop) : Prop :=
  ∀ (dp un : Nat) (gd : Option (List Code)) (cn : Str) (cs : Scope) (a : Addr) (ccd : Value) (cl : List (Str × Addr)) (outer : List Env) (A₀ : Around) (base h₀ : Heap) (L : Addr) (m : Str → Option Value) (s : Shared) (Q E : Value → Shared → Prop),
    Below A₀ base outer h₀ → Fr h₀ L s.heap m → (hd.heap_39 w.params).In h₀ → News h₀ L s.heap news → Top p loose mean mg mb h₀ → cs.kind = .function →
    dp + k < recursionLimit → un + 10 * k < cLine → (∀ v h' tk' news', Post v news' → Fr h₀ L h' m → News h₀ L h' news' → Q v { s with heap := h', toks := tk' }) →
      wpAny (model P0 w) (ktrTop dp un gd cn cs L a ccd cl outer) (call (.ref f) vs) Q E s
abbrev CgB (w : World) (p : Program) (loose : List Str) (mean : ExcName → Option Value) (mg mb : Str → Option Value) (k : Nat) (f : Addr) (news : CbLed) (vs : List Value) (Post : Value → CbLed → Prop) (dp un : Nat) (gd : Option (List Code)) (cn : Str) (cs : Scope) (a : Addr) (ccd : Value) (cl : List (Str × Addr)) (outer : List Env) (A₀ : Around) (base h₀ : Heap) (L : Addr) (m : Str → Option Value) (s : Shared) (Q E : Value → Shared → Prop) : Prop :=
    Below A₀ base outer h₀ → Fr h₀ L s.heap m → (hd.heap_39 w.params).In h₀ → News h₀ L s.heap news → Top p loose mean mg mb h₀ → cs.kind = .function →
    dp + k < recursionLimit → un + 10 * k < cLine → (∀ v h' tk' news', Post v news' → Fr h₀ L h' m → News h₀ L h' news' → Q v { s with heap := h', toks := tk' }) →
      wpAny (model P0 w) (ktrTop dp un gd cn cs L a ccd cl outer) (call (.ref f) vs) Q E s
end Mine
end
section
open PySem PySem.W PyProof.Rows PySem.Calls PySem.Spec
set_option maxRecDepth 100000
set_option maxHeartbeats 4000000
namespace Mine
section
variable {prog : Program} {w : World} {A : Around} {E : Value → Shared → Prop} {s : Shared} {K : Frag} {x C : Addr} {ox : Obj} {od : Option Obj} {xs : Array Value} {n : Nat}
/-- an instance of an own class whose base is list -/
theorem isl {M : Model} {h : Heap} (X : K.In h) (I : InstAt h x ox C od) (hm : mroIn K C (.type "list") = some true) : Looks M h (isInstance (.ref x) (.type "list")) true :=
  I.type.andThen (looks_mroIn X hm)
theorem check_meth {M : Model} {i owner n : String} {self : Value} {rest : List Value} {Q : Unit → Shared → Prop}
    (hk : builtinKind i = some .method) (hs : splitId i = some (owner, n)) (hi : Looks M s.heap (isInstance self (.type owner)) true) (ha : argsOk i ⟨self :: rest, []⟩) (q : Q () s) :
    wpAny M A (checkBuiltinCall i ⟨self :: rest, []⟩) Q E s := by
  simp only [checkBuiltinCall, hk, hs]
  refine wpAny_bind (hi.here ?_)
  simp only [Bool.not_true, Bool.false_eq_true, if_false]
  cases hsig : Manifest.signature? i with
  | none => exact wpAny_pure q
  | some sig =>
    simp only [argsOk, hsig] at ha
    have h2 : Bind.checkArgs i sig ⟨self :: rest, []⟩ = pure () := ha
    show wpAny M A (Bind.checkArgs i sig ⟨self :: rest, []⟩) Q E s
    rw [h2]; exact wpAny_pure q
theorem meth_b {name : Str} {id : String} {pl : Sem Bool} {Q : Value × List Value → Shared → Prop} (X : K.In s.heap) (I : InstAt s.heap x ox C od) {ga : String} (hga : findIn K (.ref C) "__getattribute__" = some (some (.builtin ga))) (hcan : (Manifest.canonical ga != "object.__getattribute__") = false) (hk : findIn K (.ref C) "__getattr__" = some none)
    (hf : findIn K (.ref C) name = some (some (.builtin id))) (ht : typeOf (.builtin id) = pure (.type "method_descriptor")) (hs : shadowIn od name = some false) (h : Q (.builtin id, [.ref x]) s) :
    wpAny (model prog w) A (getMethod (.ref x) name pl) Q E s := by
  unfold getMethod specialOf
  refine wpAny_bind (wpAny_bind (I.type.here ((looks_findIn X hga).here ?_)))
  dsimp only
  rw [hcan, if_neg (by decide)]
  refine wpAny_bind (wpAny_bind (I.type.here ((looks_findIn X hk).here ?_)))
  refine wpAny_bind (wpAny_bind (I.type.here ((looks_findIn X hf).here ?_)))
  refine wpAny_bind ((Looks.of_pure ht).here ?_)
  rw [if_neg (by decide +kernel)]
  refine wpAny_bind (wpAny_loadPart I.at_ ?_)
  have hd := I.dict
  cases e : ox.dict with
  | none => exact wpAny_bind (wpAny_rule (wpAny_pure h))
  | some dx =>
    cases od with
    | none => rw [e] at hd; exact hd.elim
    | some o =>
      rw [e] at hd
      obtain ⟨r, a, b⟩ := Option.map_eq_some_iff.mp hs
      refine wpAny_bind (wpAny_bind (wpAny_loadPart hd ?_))
      rw [nsLook_of a]
      refine wpAny_pure ?_
      rw [b]
      exact wpAny_bind (wpAny_rule (wpAny_pure h))
theorem acc_append {v : Value} {Q : Value → Shared → Prop} (hi : Looks (model prog w) s.heap (isInstance (.ref x) (.type "list")) true) (ho : s.heap.get? x = some ox) (hd : ox.data = .seq xs n) (hz : xs.size ≤ 1000)
    (h : Q .none { s with heap := s.heap.update x (Obj.mapSeq (·.push v)) }) : wpAny (model prog w) A (call (.builtin "list.append") [.ref x, v]) Q E s := by
  refine wpAny_call (codeAny_call_builtin slot_list_append.plain entry_list_append (check_meth (owner := "list") (n := "append") (by decide +kernel) (by decide +kernel) hi (args_list_append _ _) ?_))
  show wpAny _ _ (updateSeq x (·.push v) >>= fun _ => ret .none) _ _ s
  refine wpAny_bind (wpAny_updateSeq ho hd (wpAny_pure ?_) (by rw [sizeLine_eq]; omega) (by rw [sizeLine_eq, Array.size_push]; omega))
  exact h
theorem acc_iter {Q : Value → Shared → Prop} (hm : mroIn K C (.type "list") = some true) (X : K.In s.heap) (I : InstAt s.heap x ox C od) (hf : findIn K (.ref C) "__iter__" = some (some (.builtin "list.__iter__")))
    (hQ : Q (.ref s.heap.objs.size) { s with heap := s.heap.push { cls := .type "list_iterator", data := .fields #[.ref x, .int 0 0] } }) :
    wpAny (model prog w) A (pyIter (.ref x)) Q E s := by
  have L := looks_findIn (M := model prog w) X hf
  have it : wpAny (model prog w) A (call (.builtin "list.__iter__") [.ref x]) (fun v s' => v = .ref s.heap.objs.size ∧ s' = { s with heap := s.heap.push { cls := .type "list_iterator", data := .fields #[.ref x, .int 0 0] } }) E s := by
    refine wpAny_call (codeAny_call_builtin slot_list_iter.plain entry_list_iter (check_slot (owner := "list") (n := "__iter__") (by decide +kernel) (by decide +kernel) (isl X I hm) (args_list_iter _) ?_))
    show wpAny _ _ (do ret (← newFields "list_iterator" [.ref x, rawInt 0])) _ _ s
    exact wpAny_bind (wpAny_newObj_type (wpAny_pure ⟨rfl, rfl⟩))
  have B := slot_list_iter.bind (.ref x)
  have fin : ∀ refuse : Sem Value, wpAny (model prog w) A (if (Value.builtin "list.__iter__" == Value.none) = true then (refuse >>= fun v => pure (some v)) else (call (.builtin "list.__iter__") [.ref x] >>= fun v => pure (some v)))
      (fun r s' => r = some (.ref s.heap.objs.size) ∧ s' = { s with heap := s.heap.push { cls := .type "list_iterator", data := .fields #[.ref x, .int 0 0] } }) E s := by
    intro refuse
    rw [if_neg (show ¬ ((Value.builtin "list.__iter__" == Value.none) = true) from Bool.false_ne_true)]
    exact wpAny_bind (wpAny_mono it (fun v s' h' => wpAny_pure ⟨by rw [h'.1], h'.2⟩) fun _ _ z => z)
  have one : ∀ refuse : Sem Value, wpAny (model prog w) A (callSpecialIfBoundUnlessNone? (.ref x) "__iter__" refuse) (fun r s' => r = some (.ref s.heap.objs.size) ∧ s' = { s with heap := s.heap.push { cls := .type "list_iterator", data := .fields #[.ref x, .int 0 0] } }) E s := by
    intro refuse
    simp only [callSpecialIfBoundUnlessNone?, bindSpecialIfBound?]
    refine wpAny_holding (wpAny_bind (wpAny_bind (wpAny_bind (I.type.here (L.here ?_)))))
    refine wpAny_bind (wpAny_askSetting (wpAny_ite ?_))
    split
    · exact wpAny_bind ((Looks.of_pure B).here (wpAny_pure (by exact fin refuse)))
    · exact wpAny_tryCatch (wpAny_bind ((Looks.of_pure B).here (wpAny_pure (by exact fin refuse))))
  unfold pyIter
  refine wpAny_bind (wpAny_bind (I.type.here (L.here ?_)))
  show wpAny _ _ (callSpecialIfBoundUnlessNone? (.ref x) "__iter__" _ >>= _) _ _ _
  refine wpAny_bind (wpAny_mono (one _) (fun r s' hr => ?_) fun _ _ z => z)
  obtain ⟨rfl, rfl⟩ := hr
  refine wpAny_bind (wpAny_specialOf (T := "list_iterator") ⟨_, Heap.get?_push_size _ rfl, rfl⟩ slot_listiter_next.lookup ?_)
  exact wpAny_pure hQ
end
theorem accInst {w : World} {h₀ h : Heap} {L x dx : Addr} {vs : List Value} {n : Nat} {t1 t2 : Tok} {news : CbLed} (N : News h₀ L h news) (h1 : (x, accObj dx vs n) ∈ news) (h2 : (dx, accDict w t1 t2) ∈ news) : InstAt h x (accObj dx vs n) 122 (some (accDict w t1 t2)) :=
  ⟨(N _ h1).1, rfl, rfl, (N _ h2).1⟩
end Mine
end
section
open PySem PySem.W PyProof.Rows PySem.Calls PySem.Spec
set_option maxRecDepth 100000
set_option maxHeartbeats 4000000
namespace Mine
section
variable {prog : Program} {w : World} {A : Around} {E : Value → Shared → Prop} {s : Shared} {K : Frag} {x C : Addr} {ox : Obj} {od : Option Obj} {xs : Array Value} {n : Nat}
/-- a bound built-in of a slot (method-wrapper) called -/
theorem bound_slot {b : Addr} {id : String} {R : Result → Shared → Prop} {Bi : Builtin} (hb : s.heap.get? b = some { cls := .type "method-wrapper", data := .fields #[.builtin id, .ref x] })
    (hk : builtinKind id = some .slot) (hp : plainId id = true) (he : entryFor table id = some Bi) (ha : argsOk id ⟨[.ref x], []⟩)
    (h : ∀ A', wpAny (model prog w) A' (Bi ⟨[.ref x], []⟩) (fun fin s' => match fin with | .done f => R (.ok f) s' | .again c' => c'.quiet = true ∧ codeAny (model prog w) A c' R s') (fun e s' => R (.error e) s') s) :
    codeAny (model prog w) A (.call (.ref b) ⟨[], []⟩) R s := by
  refine codeAny_of_tree ?_
  show wpAny _ A.in1 (callAny (.ref b) ⟨[], []⟩) _ _ _
  unfold callAny
  refine wpAny_bind (wpAny_load hb ?_)
  dsimp only
  show wpAny _ _ (checkBoundCall id ⟨[.ref x], []⟩ >>= fun _ => again (.builtin id ⟨[.ref x], []⟩)) _ _ _
  refine wpAny_bind ?_
  have e : checkBoundCall id ⟨[.ref x], []⟩ = pure () := by
    unfold checkBoundCall
    cases hsig : Manifest.signature? id with
    | none => rfl
    | some sig =>
      simp only [argsOk, hsig] at ha
      simp only [hk]
      exact ha
  rw [e]
  refine wpAny_pure ?_
  exact wpAny_pure ⟨plainId_quiet hp _, codeAny_builtin he (by rw [Around.under_plainId hp]; exact h _)⟩
theorem run_len {R : Result → Shared → Prop} (ho : s.heap.get? x = some ox) (hd : ox.data = .seq xs n) (h : R (.ok (.ret (.int xs.size s.toks))) { s with toks := s.toks + 1 }) (A' : Around) :
    wpAny (model prog w) A' (Builtin.«list.__len__» ⟨[.ref x], []⟩) (fun fin s' => match fin with | .done f => R (.ok f) s' | .again c' => c'.quiet = true ∧ codeAny (model prog w) A c' R s') (fun e s' => R (.error e) s') s := by
  show wpAny _ _ (do retInt (← seqSize x)) _ _ s
  unfold seqSize
  refine wpAny_bind (wpAny_bind (wpAny_loadPart ho ?_))
  rw [hd]
  exact wpAny_pure (wpAny_bind (wpAny_mkInt (wpAny_pure h)))
theorem run_init {R : Result → Shared → Prop} (ho : s.heap.get? x = some ox) (hd : ox.data = .seq #[] n) (h : R (.ok (.ret .none)) { s with heap := s.heap.update x (Obj.mapSeq fun _ => #[]) }) (A' : Around) :
    wpAny (model prog w) A' (Builtin.«list.__init__» ⟨[.ref x], []⟩) (fun fin s' => match fin with | .done f => R (.ok f) s' | .again c' => c'.quiet = true ∧ codeAny (model prog w) A c' R s') (fun e s' => R (.error e) s') s := by
  show wpAny _ _ (do let old ← Builtin.List.listItems (.ref x); updateSeq x (fun _ => #[]); letGo old.toList.reverse; ret .none) _ _ s
  refine wpAny_bind (wpAny_bind (wpAny_seqItems ho hd (wpAny_pure ?_)))
  refine wpAny_bind (wpAny_updateSeq ho hd ?_ (by rw [sizeLine_eq]; decide) (by rw [sizeLine_eq]; decide))
  exact wpAny_bind (wpAny_pure (wpAny_pure h))
theorem run_pop {x C : Addr} {dc : Option Addr} {sl : Array (Option Value)} {hp : Heap} {g : Array GenState} {d : Drawn} {tk : Nat} {os : OsState} {y : Value} {R : Result → Shared → Prop} (hl : hp.get? x = some { cls := .ref C, dict := dc, data := .seq xs n, slots := sl }) (hs1 : xs.size ≤ 1000) (hy : xs[xs.size - 1]? = some y)
    (h : R (.ok (.ret y)) ⟨hp.update x (Obj.mapSeq fun z => z.eraseIdxIfInBounds (xs.size - 1)), g, d, tk, os⟩) (A' : Around) :
    wpAny (model prog w) A' (Builtin.«list.pop» ⟨[.ref x], []⟩) (fun fin s' => match fin with | .done f => R (.ok f) s' | .again c' => c'.quiet = true ∧ codeAny (model prog w) A c' R s') (fun e s' => R (.error e) s') ⟨hp, g, d, tk, os⟩ := by
  have hs1 : xs.size ≤ sizeLine := by rw [sizeLine_eq]; omega
  have hpos : 0 < xs.size := by
    rcases Nat.eq_zero_or_pos xs.size with h0 | h0
    · simp [h0] at hy
    · exact h0
  have hne : ¬ xs.isEmpty = true := by
    intro he; have : xs.size = 0 := by simpa using he
    omega
  have hk : seqIndex? (-1) xs.size = some (xs.size - 1) := by
    rw [seqIndex_neg (by omega) (by omega)]; congr 1; omega
  unfold Builtin.«list.pop»
  wp_walk using AutoSeq1.wpAny_loadPart' hl
  simp only [hk, hy, Option.bind_some, Option.map_some]
  have hz' : (xs.eraseIdxIfInBounds (xs.size - 1)).size ≤ sizeLine + 1 := Nat.le_trans (PySem.MeetsSeq.size_erased xs _) (Nat.le_succ_of_le hs1)
  wp_walk using (wpAny_updateSeq hl rfl (hz := hs1) (_hz' := hz')), AutoSeq1.wpAny_loadPart' hl
  exact h
end
end Mine
end
section
open PySem PySem.W PyProof.Rows PySem.Calls PySem.Spec
set_option maxRecDepth 100000
set_option maxHeartbeats 4000000
namespace Mine
section
variable {prog : Program} {w : World} {A : Around} {E : Value → Shared → Prop} {h : Heap} {g : Array GenState} {d : Drawn} {t : Nat} {os : OsState} {K : Frag} {x C : Addr} {ox : Obj} {od : Option Obj} {xs : Array Value} {n : Nat}
theorem bound_meth {b : Addr} {id : String} {R : Result → Shared → Prop} {Bi : Builtin} {cd : ClassData} (hb : h.get? b = some { cls := .type "builtin_function_or_method", data := .fields #[.builtin id, .ref x] })
    (X : K.In h) (I : InstAt h x ox C od) (hc : clsIn K C = some cd) (hmo : mroIn K C (.type "module") = some false) (htt : typeIn K (.ref C) = some (.type "type"))
    (hk : builtinKind id = some .method) (hv : Manifest.varargsMethods.contains id = false) (hp : plainId id = true) (he : entryFor table id = some Bi)
    (ha : ∀ sig, Manifest.signature? id = some sig → Bind.checkArgs id { sig with full := s!"{cd.qualname.toString}.{Bind.lastOf id}" } ⟨[.ref x], []⟩ = pure ())
    (hh : ∀ A', wpAny (model prog w) A' (Bi ⟨[.ref x], []⟩) (fun fin s' => match fin with | .done f => R (.ok f) s' | .again c' => c'.quiet = true ∧ codeAny (model prog w) A c' R s') (fun e s' => R (.error e) s') ⟨h, g, d, t, os⟩) :
    codeAny (model prog w) A (.call (.ref b) ⟨[], []⟩) R ⟨h, g, d, t, os⟩ := by
  refine codeAny_of_tree ?_
  show wpAny _ A.in1 (callAny (.ref b) ⟨[], []⟩) _ _ _
  unfold callAny
  refine wpAny_bind (wpAny_load hb ?_)
  dsimp only
  show wpAny _ _ (checkBoundCall id ⟨[.ref x], []⟩ >>= fun _ => again (.builtin id ⟨[.ref x], []⟩)) _ _ _
  refine wpAny_bind ?_
  have L0 := I.type (M := model prog w)
  have L1 : Looks (model prog w) h (isInstance (.ref x) (.type "module")) false := I.type.andThen (looks_mroIn X hmo)
  have L2 := looks_clsIn (M := model prog w) X hc
  have L3 := looks_typeIn (M := model prog w) X htt
  have hnc : ∀ c, ox.data ≠ .cls c := fun c e => by
    have := I.no
    unfold notCls at this
    rw [e] at this
    cases this
  have fin : wpAny (model prog w) A.in1 (again (.builtin id ⟨[.ref x], []⟩)) (fun fin s' => match fin with | .done f => R (.ok f) s' | .again c' => c'.quiet = true ∧ codeAny (model prog w) A c' R s') (fun e s' => R (.error e) s') ⟨h, g, d, t, os⟩ :=
    wpAny_pure ⟨plainId_quiet hp _, codeAny_builtin he (by rw [Around.under_plainId hp]; exact hh _)⟩
  unfold checkBoundCall
  cases hsig : Manifest.signature? id with
  | none => exact wpAny_pure fin
  | some sig =>
    have ha' := ha sig hsig
    simp only [hk]
    rw [if_neg (by decide)]
    refine wpAny_bind (L1.at ?_)
    simp only [hv, Bool.or_false, Bool.false_eq_true, if_false]
    refine wpAny_bind (ks_wpAny_isType_inst I.at_ hnc ?_)
    simp only [Bool.false_eq_true, if_false]
    refine wpAny_bind (L0.at ?_)
    refine wpAny_bind (L2.at ?_)
    refine wpAny_bind (L3.at ?_)
    simp only [beq_self_eq_true, if_true]
    refine wpAny_of_eq ha' ?_
    exact fin
theorem super_ga {so D : Addr} {l₀ l : List Value} {name : Str} {tk : Tok} {id ty get : String} {Q : Fin → Shared → Prop}
    (hso : h.get? so = some { cls := .type "super", dict := none, data := .fields #[.ref D, .ref x, .ref C], slots := #[] }) (hno : Looks (model prog w) h (opaqueClassAbove (.ref C)) none)
    (hC : Looks (model prog w) h (mroOf (.ref C)) l₀) (hl : (l₀.dropWhile (· != .ref D)).drop 1 = l) (X : K.In h)
    (hf : alongIn K name l = some (some (.builtin id))) (hty : typeOf (.builtin id) = pure (.type ty)) (hlk : typeLookup (.type ty) "__get__" = pure (some (.builtin get))) (hxC : x ≠ C) (hn : (name == ("__class__" : Str)) = false)
    (hq : wpAny (model prog w) A (call (.builtin get) [.builtin id, .ref x, .ref C]) (fun v s' => Q (.done (.ret v)) s') E ⟨h, g, d, t, os⟩) :
    wpAny (model prog w) A (Builtin.«super.__getattribute__» ⟨[.ref so, .str name tk], []⟩) Q E ⟨h, g, d, t, os⟩ := by
  have hne : (Value.ref x == Value.ref C) = false := by simp [hxC]
  have hdt : ({ cls := .type "super", dict := none, data := .fields #[.ref D, .ref x, .ref C], slots := #[] } : Obj).data = .fields #[.ref D, .ref x, .ref C] := rfl
  have f0 : (#[.ref D, .ref x, .ref C] : Array Value)[0]? = some (.ref D) := rfl
  have f1 : (#[.ref D, .ref x, .ref C] : Array Value)[1]? = some (.ref x) := rfl
  have f2 : (#[.ref D, .ref x, .ref C] : Array Value)[2]? = some (.ref C) := rfl
  have Lt : Looks (model prog w) h (typeOf (.builtin id)) (.type ty) := Looks.of_pure hty
  have Lg : Looks (model prog w) h (typeLookup (.type ty) "__get__") (some (.builtin get)) := Looks.of_pure hlk
  unfold Builtin.«super.__getattribute__»
  repeat (first
    | (with_reducible refine wpAny_field hso hdt f0 ?_) | (with_reducible refine wpAny_field hso hdt f1 ?_) | (with_reducible refine wpAny_field hso hdt f2 ?_)
    | (with_reducible refine ks_wpAny_notOpaque hno ?_)
    | (with_reducible refine Looks.at hC ?_; rw [hl])
    | (refine ks_forIn_along X (fun _ _ => rfl) rfl ?_ hf)
    | (with_reducible refine Looks.at Lt ?_)
    | (with_reducible refine Looks.at Lg ?_)
    | (with_reducible show wpAny _ _ (call (.builtin _) _) _ _ _; refine wpAny_mono hq (fun v s' hv => ?_) fun _ _ z => z)
    | (simp only [hn, hne, Bool.or_false, Bool.false_eq_true, if_false])
    | wp_step
    | dsimp only)
  all_goals exact hv
theorem super_get {so D : Addr} {l₀ l : List Value} {name : Str} {id ty get : String} {bo : Obj} {pl : Sem Bool} {Q : Value × List Value → Shared → Prop}
    (hso : h.get? so = some { cls := .type "super", dict := none, data := .fields #[.ref D, .ref x, .ref C], slots := #[] }) (hno : Looks (model prog w) h (opaqueClassAbove (.ref C)) none)
    (hC : Looks (model prog w) h (mroOf (.ref C)) l₀) (hl : (l₀.dropWhile (· != .ref D)).drop 1 = l) (X : K.In h)
    (hf : alongIn K name l = some (some (.builtin id))) (hty : typeOf (.builtin id) = pure (.type ty)) (hlk : typeLookup (.type ty) "__get__" = pure (some (.builtin get))) (hxC : x ≠ C) (hn : (name == ("__class__" : Str)) = false)
    (hget : ∀ A' Q' E' t', Q' (.ref h.objs.size) ⟨h.push bo, g, d, t', os⟩ → wpAny (model prog w) A' (call (.builtin get) [.builtin id, .ref x, .ref C]) Q' E' ⟨h, g, d, t', os⟩)
    (hq : Q (.ref h.objs.size, []) ⟨h.push bo, g, d, t + 1, os⟩) :
    wpAny (model prog w) A (getMethod (.ref so) name pl) Q E ⟨h, g, d, t, os⟩ := by
  have hlks := F.ks_slot_super_ga.lookup
  have hcan := F.ks_canon_super_ga
  have hT : ∀ t', (⟨h, g, d, t', os⟩ : Shared).TypeIs (.ref so) "super" := fun _ => ⟨_, hso, rfl⟩
  unfold getMethod
  refine wpAny_bind (wpAny_specialOf (hT _) hlks ?_)
  show wpAny _ _ (if (Manifest.canonical "super.__getattribute__" != "object.__getattribute__") = true then _ else _) _ _ _
  rw [if_pos hcan]
  unfold getAttr getAttrBy
  refine wpAny_bind (wpAny_bind (wpAny_mkText (wpAny_holding (wpAny_bind (wpAny_typeOf (hT _) (wpAny_bind (wpAny_of_eq hlks ?_)))))))
  show wpAny _ _ (getAttrByItsOwn (.ref so) (.str name t) (.type "super") (.builtin "super.__getattribute__") true false) _ _ _
  unfold getAttrByItsOwn hookBefore callGetattribute boundAndCalled
  refine wpAny_bind (wpAny_of_eq (show (if onTheHeap (.type "super") then typeLookup (.type "super") "__getattr__" else pure none) = pure none from rfl) ?_)
  refine wpAny_bind (wpAny_attempt (wpAny_holding ?_))
  show wpAny _ _ (bindSpecial (.builtin "super.__getattribute__") (.ref so) >>= _) _ _ _
  refine wpAny_bind (wpAny_of_eq (F.ks_slot_super_ga.bind _) ?_)
  refine wpAny_mono (Q := fun v s' => v = .ref h.objs.size ∧ s' = ⟨h.push bo, g, d, t + 1, os⟩) (E := fun _ _ => False)
    (wpAny_call_entry F.ks_slot_super_ga (hT _) F.ks_entry_super_ga (super_ga hso hno hC hl X hf hty hlk hxC hn (hget _ _ _ _ ⟨_, rfl, rfl, rfl⟩)) (F.ks_gaArgs_super _ _)) (fun v s' hv => ?_) fun _ _ z => z.elim
  obtain ⟨rfl, rfl⟩ := hv
  exact wpAny_pure (wpAny_pure hq)
end
theorem slot_wd_get : Slot "wrapper_descriptor" "__get__" "wrapper_descriptor.__get__" := .of (owner := "wrapper_descriptor") (n := "__get__") (by rw [typeLookup_type, builtinLookup_eq_fast]; kernel_rfl) (by decide +kernel) (by decide +kernel) (by decide +kernel)
  (by first | exact .inl (by decide +kernel) | exact .inr (by decide +kernel)) (by rw [isSubtype_type]; kernel_rfl)
theorem entry_wd_get : entryFor table "wrapper_descriptor.__get__" = some Builtin.«wrapper_descriptor.__get__» := entryFor_of_tree (by kernel_rfl)
theorem args_wd_get (a b c : Value) : argsOk "wrapper_descriptor.__get__" ⟨[a, b, c], []⟩ := by unfold argsOk; kernel_rfl
theorem slot_md_get : Slot "method_descriptor" "__get__" "method_descriptor.__get__" := .of (owner := "method_descriptor") (n := "__get__") (by rw [typeLookup_type, builtinLookup_eq_fast]; kernel_rfl) (by decide +kernel) (by decide +kernel) (by decide +kernel)
  (by first | exact .inl (by decide +kernel) | exact .inr (by decide +kernel)) (by rw [isSubtype_type]; kernel_rfl)
theorem entry_md_get : entryFor table "method_descriptor.__get__" = some Builtin.«method_descriptor.__get__» := entryFor_of_tree (by kernel_rfl)
theorem args_md_get (a b c : Value) : argsOk "method_descriptor.__get__" ⟨[a, b, c], []⟩ := by unfold argsOk; kernel_rfl
theorem ty_init : typeOf (.builtin "list.__init__") = pure (.type "wrapper_descriptor") := by show builtinType _ = _; rw [builtinType_eq_fast]; kernel_rfl
theorem ty_len : typeOf (.builtin "list.__len__") = pure (.type "wrapper_descriptor") := by show builtinType _ = _; rw [builtinType_eq_fast]; kernel_rfl
theorem ty_pop : typeOf (.builtin "list.pop") = pure (.type "method_descriptor") := PySem.F.type_list_pop
section
variable {prog : Program} {w : World} {h : Heap} {g : Array GenState} {d : Drawn} {os : OsState} {x C : Addr}
theorem wd_init (hi : Looks (model prog w) h (isInstance (.ref x) (.type "list")) true) (A' : Around) (Q' : Value → Shared → Prop) (E' : Value → Shared → Prop) (t' : Nat)
    (q : Q' (.ref h.objs.size) ⟨h.push { cls := .type "method-wrapper", data := .fields #[.builtin "list.__init__", .ref x] }, g, d, t', os⟩) :
    wpAny (model prog w) A' (call (.builtin "wrapper_descriptor.__get__") [.builtin "list.__init__", .ref x, .ref C]) Q' E' ⟨h, g, d, t', os⟩ := by
  refine wpAny_call_entry slot_wd_get (show typeOf _ = _ from ty_init) entry_wd_get ?_ (args_wd_get _ _ _)
  have e : ".".intercalate (("list.__init__" : String).cutAt '.').dropLast = "list" := by decide +kernel
  unfold Builtin.«wrapper_descriptor.__get__»
  repeat (first | (rw [e]) | (with_reducible refine Looks.at hi ?_) | (with_reducible refine wpAny_newObj_type ?_ (by size_fits)) | wp_step | dsimp only)
  all_goals exact ⟨_, rfl, q⟩
theorem wd_len (hi : Looks (model prog w) h (isInstance (.ref x) (.type "list")) true) (A' : Around) (Q' : Value → Shared → Prop) (E' : Value → Shared → Prop) (t' : Nat)
    (q : Q' (.ref h.objs.size) ⟨h.push { cls := .type "method-wrapper", data := .fields #[.builtin "list.__len__", .ref x] }, g, d, t', os⟩) :
    wpAny (model prog w) A' (call (.builtin "wrapper_descriptor.__get__") [.builtin "list.__len__", .ref x, .ref C]) Q' E' ⟨h, g, d, t', os⟩ := by
  refine wpAny_call_entry slot_wd_get (show typeOf _ = _ from ty_len) entry_wd_get ?_ (args_wd_get _ _ _)
  have e : ".".intercalate (("list.__len__" : String).cutAt '.').dropLast = "list" := by decide +kernel
  unfold Builtin.«wrapper_descriptor.__get__»
  repeat (first | (rw [e]) | (with_reducible refine Looks.at hi ?_) | (with_reducible refine wpAny_newObj_type ?_ (by size_fits)) | wp_step | dsimp only)
  all_goals exact ⟨_, rfl, q⟩
theorem md_pop (hi : Looks (model prog w) h (isInstance (.ref x) (.type "list")) true) (A' : Around) (Q' : Value → Shared → Prop) (E' : Value → Shared → Prop) (t' : Nat)
    (q : Q' (.ref h.objs.size) ⟨h.push { cls := .type "builtin_function_or_method", data := .fields #[.builtin "list.pop", .ref x] }, g, d, t', os⟩) :
    wpAny (model prog w) A' (call (.builtin "method_descriptor.__get__") [.builtin "list.pop", .ref x, .ref C]) Q' E' ⟨h, g, d, t', os⟩ := by
  refine wpAny_call_entry slot_md_get (show typeOf _ = _ from ty_pop) entry_md_get ?_ (args_md_get _ _ _)
  have e : ".".intercalate (("list.pop" : String).cutAt '.').dropLast = "list" := by decide +kernel
  have e2 : Manifest.toldItsClass.contains "list.pop" = false := by decide +kernel
  unfold Builtin.«method_descriptor.__get__»
  repeat (first | (rw [e]) | (rw [e2]) | (with_reducible refine Looks.at hi ?_) | (with_reducible refine wpAny_newObj_type ?_ (by size_fits)) | wp_step | dsimp only)
  all_goals exact ⟨_, rfl, q⟩
end
end Mine
end
section
open PySem PySem.W PyProof.Rows PySem.Calls PySem.Spec
set_option maxRecDepth 100000
set_option maxHeartbeats 4000000
namespace Mine
def makesLIn (K : Frag) (C : Addr) : Bool := match K.lookup C with
  | some ⟨_, _, .cls cd, sl⟩ => !cd.hasDel && (sl.toList[4]?).join == some (.builtin "list.__new__") && !cd.mro.isEmpty && cd.mro.contains (.ref C) && cd.mro.contains (.type "list") &&
      specialIn K (.ref C) "__call__" == some (some (.builtin "type.__call__")) && instIn K (.ref C) (.type "type") == some true
  | _ => false
structure MakesL (M : Model) (h : Heap) (C : Addr) : Prop where
  obj : ∃ oc od cd sl, h.get? C = some ⟨oc, od, .cls cd, sl⟩ ∧ cd.hasDel = false ∧ cd.mro.isEmpty = false
  made : Looks M h (Bind.madeBy (.ref C)) (some "list.__new__")
  base : Looks M h (Bind.staticBase (.ref C)) (.ref C)
  self : Looks M h (isSubtype (.ref C) (.ref C)) true
  top : Looks M h (isSubtype (.ref C) (.type "list")) true
  call : Looks M h (specialOf (.ref C) "__call__") (some (.builtin "type.__call__"))
  typ : Looks M h (isInstance (.ref C) (.type "type")) true
theorem makesL_of {K : Frag} {M : Model} {h : Heap} (X : K.In h) {C : Addr} (e : makesLIn K C = true) : MakesL M h C := by
  unfold makesLIn at e
  split at e
  · rename_i oc od cd sl ho
    simp only [Bool.and_eq_true, Bool.not_eq_true', beq_iff_eq] at e
    obtain ⟨⟨⟨⟨⟨⟨e2, e3⟩, e4⟩, e5⟩, e6⟩, e7⟩, e8⟩ := e
    have hc : clsIn K C = some cd := by unfold clsIn; rw [ho]
    have hm : Looks M h (mroOf (.ref C)) cd.mro := (looks_clsIn X hc).andThen .now
    obtain ⟨c, l, hl⟩ : ∃ c l, cd.mro = c :: l := by cases q : cd.mro with | nil => rw [q] at e4; cases e4 | cons c l => exact ⟨c, l, rfl⟩
    have made : Looks M h (Bind.madeBy (.ref C)) (some "list.__new__") := by
      intro A Q E s k q
      unfold Bind.madeBy
      refine wpAny_bind (hm A _ E s k ?_)
      rw [hl, List.forIn_cons]
      refine wpAny_bind (wpAny_bind (wpAny_bind (wpAny_bind (wpAny_loadPart (k _ _ (X _ _ ho)) (wpAny_pure ?_)))))
      dsimp only
      rw [← Array.getElem?_toList, e3]
      exact wpAny_pure (wpAny_pure (wpAny_pure q))
    refine ⟨⟨oc, od, cd, sl, X _ _ ho, e2, e4⟩, made, ?_, looks_mroIn X ?_, looks_mroIn X ?_, looks_specialIn X e7, looks_instIn X e8⟩
    · intro A Q E s k q
      unfold Bind.staticBase
      refine wpAny_bind (hm A _ E s k ?_)
      rw [hl, List.forIn_cons]
      exact wpAny_bind (wpAny_bind (wpAny_bind (made A _ E s k (wpAny_pure (wpAny_pure (wpAny_pure q))))))
    · unfold mroIn; rw [hc, Option.bind_some, if_neg (by rw [e4]; decide), e5]
    · unfold mroIn; rw [hc, Option.bind_some, if_neg (by rw [e4]; decide), e6]
  · cases e
theorem ln_kind : builtinKind "list.__new__" = some .builtinFn := by decide +kernel
theorem ln_split : splitId "list.__new__" = some ("list", "__new__") := by decide +kernel
section
variable {prog : Program} {w : World} {A : Around} {K : Frag} {C : Addr} {R : Result → Shared → Prop} {h : Heap} {g : Array GenState} {d : Drawn} {t : Nat} {os : OsState}
theorem new_L (Y : MakesL (model prog w) h C)
    (hq : R (.ok (.ret (.ref (h.objs.size + 1)))) ⟨(h.push emptyDict).push (accObj0 C h.objs.size), g, d, t, os⟩) :
    codeAny (model prog w) A (.call (.builtin "list.__new__") ⟨[.ref C], []⟩) R ⟨h, g, d, t, os⟩ := by
  obtain ⟨⟨oc, od, cd, sl, hC, e2, e4⟩, made, base, self, top, call, typ⟩ := Y
  refine codeAny_call_builtin_code (Code.quiet_builtin _ (by decide +kernel)) ?_
  simp only [checkBuiltinCall, ln_kind, ln_split]
  have can : (Manifest.canonical "list.__new__" != Manifest.canonical "list.__new__") = false := bne_self_eq_false _
  repeat (first | lk | rw [can])
  clear can
  refine codeAny_builtin_stack F.entry_list_new rfl fun p st => ?_
  have hown := owner_list_new
  simp only [hown]
  clear hown
  repeat (first | (with_reducible refine ks_wpAny_isType_cls hC rfl ?_) | (with_reducible refine Looks.at top ?_) | wp_step)
  all_goals (rw [Heap.size_push]; exact hq)
end
end Mine
end
section
open PySem PySem.W PyProof.Rows PySem.Calls PySem.Spec
set_option maxRecDepth 100000
set_option maxHeartbeats 4000000
namespace Mine
section
variable {prog : Program} {w : World} {A : Around} {K : Frag} {C : Addr} {R : Result → Shared → Prop} {h : Heap} {g : Array GenState} {d : Drawn} {t : Nat} {os : OsState}
theorem makeL_core {init : Value} (Y : MakesL (model prog w) h C) (hi : Looks (model prog w) h (typeLookup (.ref C) "__init__") (some init))
    (hb : ∀ self, Looks (model prog w) h (bindSpecial init self) (init, [self]))
    (hq : codeAny (model prog w) (A.under (.builtin "type.__call__" ⟨[.ref C], []⟩)) (.call init ⟨[.ref (h.objs.size + 1)], []⟩) (InitBack (h.objs.size + 1) R) ⟨(h.push emptyDict).push (accObj0 C h.objs.size), g, d, t, os⟩) :
    codeAny (model prog w) A (.call (.ref C) ⟨[], []⟩) R ⟨h, g, d, t, os⟩ := by
  have Y' := Y
  obtain ⟨⟨oc, od, cd, sl, hC, e2, e4⟩, made, base, self, top, call, typ⟩ := Y
  refine codeAny_of_tree ?_
  show wpAny _ _ (callAny (.ref C) _) _ _ _
  refine nd_load hC ?_
  show wpAny _ _ (callAny.viaDunder (.ref C) _) _ _ _
  unfold callAny.viaDunder
  refine wpAny_bind (call.at ?_)
  dsimp only
  rw [tc_bind]
  refine wpAny_bind (wpAny_pure (wpAny_bind (wpAny_pure ?_)))
  refine wpAny_pure (a := Fin.again (.call (.builtin "type.__call__") ⟨[.ref C], []⟩)) (And.intro rfl ?_)
  refine codeAny_call_builtin_at (Code.quiet_builtin _ (by decide +kernel)) entry_typeCall (check_slot tc_kind tc_split typ (tc_args _ _ _) ?_)
  unfold Builtin.«type.__call__»
  have hm : Looks (model prog w) h (mroOf (.ref C)) cd.mro := ((Looks.ld (part := none) hC).andThen .now).andThen .now
  repeat (first | with_reducible refine wpAny_call ?_ | lk | rw [e4])
  refine new_L Y' ?_
  have k : ∀ b o, h.get? b = some o → ((h.push emptyDict).push (accObj0 C h.objs.size)).get? b = some o := fun b o e => Heap.get?_push_of_some _ (Heap.get?_push_of_some _ e)
  have hx : ((h.push emptyDict).push (accObj0 C h.objs.size)).get? (h.objs.size + 1) = some (accObj0 C h.objs.size) := by heap_get
  have t1 : Looks (model prog w) ((h.push emptyDict).push (accObj0 C h.objs.size)) (typeOf (.ref (h.objs.size + 1))) (.ref C) := (Looks.ld hx).andThen .now
  have s1 := self.keeps k
  have i1 := hi.keeps k
  have b1 := (hb (.ref (h.objs.size + 1))).keeps k
  clear hm hi made base self top call typ
  unfold isInstance callSpecial? specialOf
  repeat (first | with_reducible refine wpAny_call ?_ | lk)
  refine codeAny_mono hq fun r s' z => ?_
  rcases r with e | (v | _ | _ | _) <;> first | exact z | exact z.elim | skip
  obtain ⟨rfl, z⟩ := z
  exact wpAny_pure (wpAny_pure z)
end
section
variable {prog : Program} {w : World} {A : Around} {K : Frag} {C : Addr} {s : Shared} {h₀ : Heap} {L : Addr} {m : Str → Option Value} {news : List (Addr × Obj)} {R : Result → Shared → Prop}
theorem make_L {fI : Addr} (F : Fr h₀ L s.heap m) (N : News h₀ L s.heap news) (X : K.In s.heap) (hm : makesLIn K C = true)
    (hi : findIn K (.ref C) "__init__" = some (some (.ref fI))) (hf : typeIn K (.ref fI) = some (.type "function"))
    (h : ∀ x dx h', Fr h₀ L h' m → News h₀ L h' ((x, accObj0 C dx) :: (dx, emptyDict) :: news) → (∀ p ∈ news, p.1 < dx) → dx < x →
      codeAny (model prog w) (A.under (.builtin "type.__call__" ⟨[.ref C], []⟩)) (.call (.ref fI) ⟨[.ref x], []⟩) (InitBack x R) { s with heap := h' }) :
    codeAny (model prog w) A (.call (.ref C) ⟨[], []⟩) R s := by
  obtain ⟨hh, g, d, t, os⟩ := s
  refine makeL_core (makesL_of X hm) (looks_findIn X hi) (fun self => bind_fn X self hf) (h _ hh.objs.size _ ((F.push _).push _) ?_ (fun p hp => Heap.lt_size (N p hp).1) (Nat.lt_succ_self _))
  have := (N.push F emptyDict).push (F.push _) (accObj0 C hh.objs.size)
  rwa [Heap.size_push] at this
end
end Mine
end
section
open PySem PySem.W PyProof.Rows PySem.Calls PySem.Spec
set_option maxRecDepth 100000
set_option maxHeartbeats 4000000
namespace Mine
theorem allLt_all {d : Addr} : ∀ {l : CbLed}, AllLt d l → ∀ q ∈ l, q.1 < d
  | [], _, _, h => by cases h
  | _ :: _, a, q, h => by
    rcases List.mem_cons.mp h with rfl | h
    · exact a.1
    · exact allLt_all a.2 q h
section
variable {prog : Program} {w : World} {A : Around} {E : Value → Shared → Prop} {s : Shared} {h₀ : Heap} {L x dx : Addr} {m : Str → Option Value} {pre post : CbLed} {vs : List Value} {n : Nat} {od : Option Obj} {K : Frag}
theorem append_at {v : Value} {Q : Value → Shared → Prop} (F : Fr h₀ L s.heap m) (N : News h₀ L s.heap (pre ++ (x, accObj dx vs n) :: post)) (X : K.In s.heap) (I : InstAt s.heap x (accObj dx vs n) 122 od) (hm : mroIn K 122 (.type "list") = some true)
    (h1 : ∀ p ∈ pre, p.1 ≠ x) (h2 : ∀ p ∈ post, p.1 ≠ x) (hz : vs.length ≤ 100)
    (h : ∀ h', Fr h₀ L h' m → News h₀ L h' (pre ++ (x, accObj dx (vs ++ [v]) (n + 1)) :: post) → Q .none { s with heap := h' }) :
    wpAny (model prog w) A (call (.builtin "list.append") [.ref x, v]) Q E s := by
  refine acc_append (isl X I hm) I.at_ rfl (by rw [List.size_toArray]; omega) ?_
  have e : Obj.mapSeq (·.push v) (accObj dx vs n) = accObj dx (vs ++ [v]) (n + 1) := by
    have q : (vs.toArray.push v) = (vs ++ [v]).toArray := by simp
    simp only [Obj.mapSeq, q]
    congr 1
    simp
  obtain ⟨F3, N3⟩ := news_upd F N h1 h2 e rfl
  exact h _ F3 N3
end
end Mine
end
section
open PySem PySem.W PyProof.Rows PySem.Calls PySem.Spec Builtin Builtin.ObjectAttr
set_option maxRecDepth 100000
set_option maxHeartbeats 4000000
namespace Mine
theorem refuse_list (self : Value) : refuseLoop self "__setattr__" [.type "list", .type "object"] = pure () := by kernel_rfl
section
variable {prog : Program} {w : World} {A : Around} {K : Frag} {C x : Addr} {s : Shared} {h₀ : Heap} {L : Addr} {m : Str → Option Value} {R : Result → Shared → Prop}
/-- a new name stored on an instance of an own class of base list -/
theorem osaL {ox od' : Obj} {dx : Addr} {cd : ClassData} {name : Str} {tk : Tok} {v : Value} {pre post : CbLed} (F : Fr h₀ L s.heap m) (N : News h₀ L s.heap (pre ++ (dx, emptyDict) :: post)) (X : K.In s.heap)
    (I : InstAt s.heap x ox C (some emptyDict)) (hd : ox.dict = some dx) (hc : clsIn K C = some cd) (hmr : cd.mro = [.ref C, .type "list", .type "object"]) (hmo : mroIn K C (.type "object") = some true)
    (ht : findIn K (.ref C) name = some none) (hh : cd.hasDict = true)
    (h1 : ∀ p ∈ pre, p.1 ≠ dx) (h2 : ∀ p ∈ post, p.1 ≠ dx)
    (e : Obj.putName name (PyData.keyHash w.params name) (.str name s.toks) v emptyDict = od') {es : List DictEntry} {n : Nat} (e' : od'.data = .dict es.toArray n) (hz : es.length ≤ 1000)
    (h : ∀ h', Fr h₀ L h' m → News h₀ L h' (pre ++ (dx, od') :: post) → R (.ok (.ret .none)) { s with heap := h', toks := s.toks + 1 }) :
    codeAny (model prog w) A (.call (.builtin "object.__setattr__") ⟨[.ref x, .str name tk, v], []⟩) R s := by
  have SF := PySem.F.store_object
  have sub : Looks (model prog w) s.heap (isInstance (.ref x) (.type "object")) true := I.type.andThen (looks_mroIn X hmo)
  refine codeAny_call_builtin SF.slot.plain SF.entry (@check_slot (model prog w) _ _ s "object.__setattr__" "object" "__setattr__" (.ref x) [.str name tk, v] [] _ SF.kind SF.split sub (SF.args (.ref x) (.str name tk) v) ?_)
  have hm : Looks (model prog w) s.heap (mroOf (.ref C)) cd.mro := (looks_clsIn X hc).andThen .now
  rw [osa_eq, refuse_eq]
  refine wpAny_bind (wpAny_bind (I.type.here (wpAny_bind (hm.here ?_))))
  rw [hmr, refuseLoop_ref, refuse_list]
  refine wpAny_pure (wpAny_bind (I.type.here (wpAny_bind ((looks_findIn X ht).here (wpAny_bind (wpAny_pure ?_))))))
  obtain ⟨U1, U2⟩ := news_upd (f := Obj.putName name (PyData.keyHash w.params name) (.str name s.toks) v) F N h1 h2 e (by obtain ⟨_, _, dd, _⟩ := od'; cases e'; rfl)
  have D := (N (dx, emptyDict) (by simp)).1
  have D' := (U2 (dx, od') (by simp)).1
  obtain ⟨hx, hcl, hn, -⟩ := I
  obtain ⟨oc, odi, oda, osl⟩ := ox
  dsimp only at hcl hd
  subst hcl hd
  refine wpAny_bind (wpAny_pure (wpAny_bind (wpAny_bind (wpAny_loadPart hx (wpAny_bind ((looks_clsIn X hc).here ?_))))))
  rw [hh]
  refine wpAny_pure (a := some dx) (wpAny_bind (wpAny_pure (wpAny_bind ?_)))
  unfold nsSet
  refine wpAny_bind (wpAny_bind (wpAny_askSetting (wpAny_pure (wpAny_bind (wpAny_mkText (wpAny_bind (wpAny_loadPart D ?_)))))))
  dsimp only
  have c : (!(#[] : Array DictEntry).any (·.key.isStr name) && (#[] : Array DictEntry).any (·.refKey)) = false := by simp
  rw [aRefKeyMayBeTheName_at, c]
  refine wpAny_updatePart D ?_
  refine wpAny_bind (wpAny_lookBehind D' (by rw [e']; exact pastItsLine_dict (by rw [List.size_toArray, sizeLine_eq]; omega)) ?_)
  exact wpAny_pure (h _ U1 U2)
end
theorem cls122 (P : Params) : ∃ cd, clsIn (hd.heap_39 P) 122 = some cd ∧ cd.mro = [.ref 122, .type "list", .type "object"] ∧ cd.hasDict = true ∧ cd.qualname = Str.ofString "_Accumulator" := ⟨_, rfl, rfl, rfl, rfl⟩
end Mine
end
section
open PySem PySem.W PyProof.Rows PySem.Calls PySem.Spec
set_option maxRecDepth 100000
set_option maxHeartbeats 4000000
namespace Mine
section
variable {prog : Program} {w : World} {A : Around} {E : Value → Shared → Prop} {s : Shared} {h₀ : Heap} {L : Addr} {m : Str → Option Value} {news : CbLed} {K : Frag} {x C D so : Addr} {ox : Obj} {od : Option Obj}
theorem superB {name : Str} {id ty get : String} {bo : Obj} {pl : Sem Bool} {Q : Value × List Value → Shared → Prop} (F : Fr h₀ L s.heap m) (X₀ : K.In h₀) (N : News h₀ L s.heap news) (hso : (so, ks_superObj D x C) ∈ news) (I : InstAt s.heap x ox C od) (ho : nsIn K cStatics "thirdparty.any" = some none)
    (hm : ks_superIn K C D name = some (some (.builtin id))) (hty : typeOf (.builtin id) = pure (.type ty)) (hlk : typeLookup (.type ty) "__get__" = pure (some (.builtin get))) (hn : (name == ("__class__" : Str)) = false)
    (hb : bo.isFreed = false)
    (hget : ∀ A' Q' E' t', Q' (.ref s.heap.objs.size) ⟨s.heap.push bo, s.gens, s.drawn, t', s.os⟩ → wpAny (model prog w) A' (call (.builtin get) [.builtin id, .ref x, .ref C]) Q' E' ⟨s.heap, s.gens, s.drawn, t', s.os⟩)
    (h : ∀ q h', Fr h₀ L h' m → News h₀ L h' ((q, bo) :: news) → (∀ p ∈ news, p.1 < q) → Q (.ref q, []) { s with heap := h', toks := s.toks + 1 }) : wpAny (model prog w) A (getMethod (.ref so) name pl) Q E s := by
  have X : K.In s.heap := X₀.keeps F.keep
  obtain ⟨hh, g, d, t, os⟩ := s
  cases hc : clsIn K C with
  | none => unfold ks_superIn at hm; rw [hc] at hm; cases hm
  | some cd =>
    unfold ks_superIn at hm
    rw [hc] at hm
    refine super_get (bo := bo) (l₀ := cd.mro) (N _ hso).1 (looks_opaque X ho) ?_ rfl X hm hty hlk (ks_ne X I hc) hn hget ?_
    · exact fun A Q E s k q => wpAny_bind ((looks_clsIn X hc) A _ E s k (wpAny_pure q))
    · obtain ⟨F', N', l'⟩ := ks_newsPush (s := ⟨hh, g, d, t, os⟩) (o := bo) F N rfl (Heap.get?_push_at rfl hb) (fun b o e => Heap.get?_push_of_some _ e)
      exact h _ _ F' N' l'
end
section
variable {M : Model} {A : Around} {E : Value → Shared → Prop} {s : Shared} {env : Env} {pos : Pos} {first : List Value} {Q : Value → Shared → Prop}
/-- a bound built-in called without arguments -/
theorem callWith_B0 {q x : Addr} {id bt : String} (hq : s.heap.get? q = some { cls := .type bt, data := .fields #[.builtin id, .ref x] }) (hbt : bt = "method-wrapper" ∨ bt = "builtin_function_or_method") (h : wpAny M A (call (.ref q) (first ++ [])) Q E s) :
    wpAny M A (callWith pos (.ref q) first (backTo pos (starEach [] env)) []) Q E s :=
  callWith_of (P := fun h => h.get? q = some { cls := .type bt, data := .fields #[.builtin id, .ref x] }) rfl (fun h e => by
    refine ⟨.machine, .inr (.inl rfl), (Looks.ld (part := none) e).andThen ?_⟩
    rcases hbt with rfl | rfl <;> exact .now) (evalArgs_nil3 ⟨hq, h⟩)
end
end Mine
end
section
open PySem PySem.W PyProof.Rows PySem.Calls PySem.Spec
set_option maxRecDepth 100000
set_option maxHeartbeats 4000000
namespace Mine
section
variable {prog : Program} {w : World} {A' : Around} {hp : Heap} {g : Array GenState} {d : Drawn} {tk : Nat} {os : OsState} {x : Addr} {ox : Obj} {xs : Array Value} {n : Nat} {P : Fin → Shared → Prop} {E : Value → Shared → Prop}
theorem run_lenP (ho : hp.get? x = some ox) (hd : ox.data = .seq xs n) (h : P (.done (.ret (.int xs.size tk))) ⟨hp, g, d, tk + 1, os⟩) :
    wpAny (model prog w) A' (Builtin.«list.__len__» ⟨[.ref x], []⟩) P E ⟨hp, g, d, tk, os⟩ := by
  show wpAny _ _ (do retInt (← seqSize x)) _ _ _
  unfold seqSize
  refine wpAny_bind (wpAny_bind (wpAny_loadPart ho ?_))
  rw [hd]
  exact wpAny_pure (wpAny_bind (wpAny_mkInt (wpAny_pure h)))
theorem run_initP (ho : hp.get? x = some ox) (hd : ox.data = .seq #[] n) (h : P (.done (.ret .none)) ⟨hp.update x (Obj.mapSeq fun _ => #[]), g, d, tk, os⟩) :
    wpAny (model prog w) A' (Builtin.«list.__init__» ⟨[.ref x], []⟩) P E ⟨hp, g, d, tk, os⟩ := by
  show wpAny _ _ (do let old ← Builtin.List.listItems (.ref x); updateSeq x (fun _ => #[]); letGo old.toList.reverse; ret .none) _ _ _
  refine wpAny_bind (wpAny_bind (wpAny_seqItems ho hd (wpAny_pure ?_)))
  refine wpAny_bind (wpAny_updateSeq ho hd ?_ (by rw [sizeLine_eq]; decide) (by rw [sizeLine_eq]; decide))
  exact wpAny_bind (wpAny_pure (wpAny_pure h))
theorem run_popP {C : Addr} {dc : Option Addr} {sl : Array (Option Value)} {y : Value} (hl : hp.get? x = some { cls := .ref C, dict := dc, data := .seq xs n, slots := sl }) (hs1 : xs.size ≤ 1000) (hy : xs[xs.size - 1]? = some y)
    (h : P (.done (.ret y)) ⟨hp.update x (Obj.mapSeq fun z => z.eraseIdxIfInBounds (xs.size - 1)), g, d, tk, os⟩) :
    wpAny (model prog w) A' (Builtin.«list.pop» ⟨[.ref x], []⟩) P E ⟨hp, g, d, tk, os⟩ := by
  have hs1 : xs.size ≤ sizeLine := by rw [sizeLine_eq]; omega
  have hpos : 0 < xs.size := by
    rcases Nat.eq_zero_or_pos xs.size with h0 | h0
    · simp [h0] at hy
    · exact h0
  have hne : ¬ xs.isEmpty = true := by
    intro he; have : xs.size = 0 := by simpa using he
    omega
  have hk : seqIndex? (-1) xs.size = some (xs.size - 1) := by
    rw [seqIndex_neg (by omega) (by omega)]; congr 1; omega
  unfold Builtin.«list.pop»
  wp_walk using AutoSeq1.wpAny_loadPart' hl
  simp only [hk, hy, Option.bind_some, Option.map_some]
  have hz' : (xs.eraseIdxIfInBounds (xs.size - 1)).size ≤ sizeLine + 1 := Nat.le_trans (PySem.MeetsSeq.size_erased xs _) (Nat.le_succ_of_le hs1)
  wp_walk using (wpAny_updateSeq hl rfl (hz := hs1) (_hz' := hz')), AutoSeq1.wpAny_loadPart' hl
  exact h
end
end Mine
end
section
open PySem PySem.W PyProof.Rows PySem.Calls PySem.Spec
set_option maxRecDepth 100000
set_option maxHeartbeats 4000000
namespace Mine
theorem popSeq {dx : Addr} {vs : List Value} {v : Value} {n : Nat} : Obj.mapSeq (fun z => z.eraseIdxIfInBounds ((vs ++ [v]).toArray.size - 1)) (accObj dx (vs ++ [v]) n) = accObj dx vs (n + 1) := by
  have e : (vs ++ [v]).toArray.eraseIdxIfInBounds ((vs ++ [v]).toArray.size - 1) = vs.toArray := by
    apply Array.toList_inj.mp
    simp [List.eraseIdx_append_of_length_le]
  simp only [Obj.mapSeq, e]
  simp
theorem putAcc (w : World) (t1 t2 : Tok) : Obj.putName (Str.ofString "_initial_size") (PyData.keyHash w.params (Str.ofString "_initial_size")) (.str (Str.ofString "_initial_size") t1) (.int 0 t2) emptyDict = accDict w t1 t2 := by
  rfl
section
variable {prog : Program} {w : World} {A : Around} {E : Value → Shared → Prop} {s : Shared} {K : Frag} {x C : Addr} {ox : Obj} {od : Option Obj}
theorem meth_f {name : Str} {f : Addr} {pl : Sem Bool} {Q : Value × List Value → Shared → Prop} (X : K.In s.heap) (I : InstAt s.heap x ox C od) {ga : String} (hga : findIn K (.ref C) "__getattribute__" = some (some (.builtin ga))) (hcan : (Manifest.canonical ga != "object.__getattribute__") = false) (hk : findIn K (.ref C) "__getattr__" = some none)
    (hf : findIn K (.ref C) name = some (some (.ref f))) (ht : typeIn K (.ref f) = some (.type "function")) (hs : shadowIn od name = some false) (h : Q (.ref f, [.ref x]) s) :
    wpAny (model prog w) A (getMethod (.ref x) name pl) Q E s := by
  unfold getMethod specialOf
  refine wpAny_bind (wpAny_bind (I.type.here ((looks_findIn X hga).here ?_)))
  dsimp only
  rw [hcan, if_neg (by decide)]
  refine wpAny_bind (wpAny_bind (I.type.here ((looks_findIn X hk).here ?_)))
  refine wpAny_bind (wpAny_bind (I.type.here ((looks_findIn X hf).here (wpAny_bind ((looks_typeIn X ht).here ?_)))))
  rw [if_neg (by decide +kernel)]
  refine wpAny_bind (wpAny_loadPart I.at_ ?_)
  have hd := I.dict
  cases e : ox.dict with
  | none => exact wpAny_bind (wpAny_rule (wpAny_pure h))
  | some dx =>
    cases od with
    | none => rw [e] at hd; exact hd.elim
    | some o =>
      rw [e] at hd
      obtain ⟨r, a, b⟩ := Option.map_eq_some_iff.mp hs
      refine wpAny_bind (wpAny_bind (wpAny_loadPart hd ?_))
      rw [nsLook_of a]
      refine wpAny_pure ?_
      rw [b]
      exact wpAny_bind (wpAny_rule (wpAny_pure h))
/-- a call of an own method on an accumulator of the ledger -/
theorem acc_meth {h₀ : Heap} {L dx : Addr} {m : Str → Option Value} {news : CbLed} {vs : List Value} {n : Nat} {t1 t2 : Tok} {name : Str} {f : Addr} {pl : Sem Bool} {Q : Value × List Value → Shared → Prop} (F : Fr h₀ L s.heap m) (X : (hd.heap_39 w.params).In h₀) (N : News h₀ L s.heap news) (h1 : (x, accObj dx vs n) ∈ news) (h2 : (dx, accDict w t1 t2) ∈ news)
    (hf : findIn (hd.heap_39 w.params) (.ref 122) name = some (some (.ref f))) (ht : typeIn (hd.heap_39 w.params) (.ref f) = some (.type "function")) (hs : shadowIn (some (accDict w t1 t2)) name = some false) (h : Q (.ref f, [.ref x]) s) :
    wpAny (model prog w) A (getMethod (.ref x) name pl) Q E s :=
  meth_f (X.keeps F.keep) (accInst N h1 h2) (ga := "list.__getattribute__") (by kernel_rfl) (by decide +kernel) (by kernel_rfl) hf ht hs h
end
end Mine
end
section
open PySem PySem.W PyProof.Rows PySem.Calls PySem.Spec
namespace Mine
set_option maxRecDepth 100000 in
set_option maxHeartbeats 8000000 in
theorem push_ct (w : World) (p : Program) (loose : List Str) (mean : ExcName → Option Value) (mg mb : Str → Option Value) (rest : CbLed) (x dx : Addr) (vs : List Value) (n : Nat) (t1 t2 ta tb : Tok) (a b : Str) (hx : ∀ q ∈ rest, q.1 ≠ x) (hdx : dx ≠ x) (hn : vs.length ≤ 100) :
    Cg w p loose mean mg mb 4 66 ((x, accObj dx vs n) :: (dx, accDict w t1 t2) :: rest) [.ref x, .str a ta, .str b tb]
      (fun v news' => v = .none ∧ ∃ T, news' = (x, accObj dx (vs ++ [.ref T]) (n + 1)) :: (T, tupObj (.str a ta) (.str b tb)) :: (dx, accDict w t1 t2) :: rest ∧ ∀ q ∈ (x, accObj dx vs n) :: (dx, accDict w t1 t2) :: rest, q.1 < T) := by
  unfold Cg P0
  k_fill
  intro dp un gd cn cs a0 ccd cl outr A₀ base h₀ L m s Q E hB hF hX hN hT hcs hdp hun hret
  have fin : ∀ (T : Addr) (h' : Heap) (tk' : Nat), (x < T ∧ dx < T ∧ AllLt T rest) → Fr h₀ L h' m → News h₀ L h' ((T, tupObj (.str a ta) (.str b tb)) :: (x, accObj dx (vs ++ [.ref T]) (n + 1)) :: (dx, accDict w t1 t2) :: rest) → Q .none { s with heap := h', toks := tk' } := by
    intro T h' tk' hl F N
    refine hret _ h' tk' _ ⟨rfl, T, rfl, ?_⟩ F (kst_newsOf N ?_)
    · intro q hq
      rcases List.mem_cons.mp hq with rfl | hq
      · exact hl.1
      · rcases List.mem_cons.mp hq with rfl | hq
        · exact hl.2.1
        · exact allLt_all hl.2.2 q hq
    · intro p hp
      rcases List.mem_cons.mp hp with rfl | hp
      · exact .tail _ (.head _)
      · rcases List.mem_cons.mp hp with rfl | hp
        · exact .head _
        · exact .tail _ (.tail _ hp)
  refine wpAny_call ?_
  k_dflt cell_enter
  rename Fr _ _ _ _ => F0
  have F1 : Fr _ _ _ (kstB (fun _ => none) [(Str.ofString "string", Value.str b tb), (Str.ofString "fws", Value.str a ta), (Str.ofString "self", Value.ref x)]) := fr_open F0
  clear F0
  repeat' (first | (k_unfold; (try dsimp only)) | ((fail_if_success (with_reducible show wpAny _ _ (exec (Stmt.While _ _ _ _) _) _ _ _)); (fail_if_success (with_reducible show wpAny _ _ (exec (Stmt.For _ _ _ _ _) _) _ _ _)); (fail_if_success (with_reducible show wpAny _ _ (pyIter _) _ _ _)); first | walk1 | (dsimp only; walk1)) | (leave1; (try dsimp only)))
  rename Fr _ _ _ _ => F1
  rename News _ _ _ _ => N1
  have X1 : (hd.heap_39 w.params).In _ := Frag.In.keeps ‹(hd.heap_39 w.params).In _› F1.keep
  refine meth_b (K := hd.heap_39 w.params) (C := 122) (id := "list.append") X1 (accInst N1 (.head _) (.tail _ (.head _))) (ga := "list.__getattribute__") (by k_is) (by decide +kernel) (by k_is) (by k_is) PySem.F.type_list_append (by kernel_rfl) ?_
  repeat' (first | (k_unfold; (try dsimp only)) | ((fail_if_success (with_reducible show wpAny _ _ (exec (Stmt.While _ _ _ _) _) _ _ _)); (fail_if_success (with_reducible show wpAny _ _ (exec (Stmt.For _ _ _ _ _) _) _ _ _)); (fail_if_success (with_reducible show wpAny _ _ (pyIter _) _ _ _)); first | walk1 | (dsimp only; walk1)) | (leave1; (try dsimp only)))
  rename Fr _ _ _ _ => F2
  rename News _ _ _ _ => N2
  have X2 : (hd.heap_39 w.params).In _ := Frag.In.keeps ‹(hd.heap_39 w.params).In _› F2.keep
  have I2 := accInst N2 (.tail _ (.head _)) (.tail _ (.tail _ (.head _)))
  rename _ < _ ∧ _ < _ ∧ AllLt _ _ => l9
  refine append_at (pre := [_]) F2 N2 X2 I2 (by k_is) ?_ ?_ hn ?_
  · intro p hp
    rcases List.mem_cons.mp hp with rfl | hp
    · exact Nat.ne_of_gt l9.1
    · cases hp
  · intro p hp
    rcases List.mem_cons.mp hp with rfl | hp
    · exact hdx
    · exact hx p hp
  intro h5 F3 N3
  repeat' (first | (k_unfold; (try dsimp only)) | ((fail_if_success (with_reducible show wpAny _ _ (exec (Stmt.While _ _ _ _) _) _ _ _)); (fail_if_success (with_reducible show wpAny _ _ (exec (Stmt.For _ _ _ _ _) _) _ _ _)); (fail_if_success (with_reducible show wpAny _ _ (pyIter _) _ _ _)); first | walk1 | (dsimp only; walk1)) | (leave1; (try dsimp only)))
  exact fin _ _ _ l9 (by k_asm) (by k_asm)
end Mine
end
section
open PySem PySem.W PyProof.Rows PySem.Calls PySem.Spec
namespace Mine
namespace acc_ct_e
def St9 (w : World) (p : Program) (loose : List Str) (mean : ExcName → Option Value) (mg : Str → Option Value) (mb : Str → Option Value) (news : CbLed) (dp : Nat) (un : Nat) (gd : Option (List Code)) (cn : Str) (cs : Scope) (a0 : Addr) (ccd : Value) (cl : List (Str × Addr)) (outr : List Env) (A₀ : Around) (base : Heap) (h₀ : Heap) (L : Addr) (m : Str → Option Value) (s : Shared) (Q : Value → Shared → Prop) (E : Value → Shared → Prop) : Prop :=
  CgB w p loose mean mg mb 8 122 news []
      (fun v news' => ∃ x dx n t1 t2, v = .ref x ∧ news' = (x, accObj dx [] n) :: (dx, accDict w t1 t2) :: news ∧ dx < x ∧ ∀ q ∈ news, q.1 < dx) dp un gd cn cs a0 ccd cl outr A₀ base h₀ L m s Q E
abbrev Vt9 : Type := World × Program × (List Str) × (ExcName → Option Value) × (Str → Option Value) × (Str → Option Value) × CbLed × Nat × Nat × (Option (List Code)) × Str × Scope × Addr × Value × (List (Str × Addr)) × (List Env) × Around × Heap × Heap × Addr × (Str → Option Value) × Shared × (Value → Shared → Prop) × (Value → Shared → Prop)
theorem ne9 : Nonempty Vt9 := by
  obtain ⟨w0⟩ := neW
  exact ⟨w0, default, [], (fun _ => none), (fun _ => none), (fun _ => none), [], 0, 0, none, default, default, 0, .none, [], [], callerA, {}, {}, 0, (fun _ => none), {}, (fun _ _ => True), (fun _ _ => True)⟩
def Sp9 (t : Vt9) : Prop := St9 (t.1) (t.2.1) (t.2.2.1) (t.2.2.2.1) (t.2.2.2.2.1) (t.2.2.2.2.2.1) (t.2.2.2.2.2.2.1) (t.2.2.2.2.2.2.2.1) (t.2.2.2.2.2.2.2.2.1) (t.2.2.2.2.2.2.2.2.2.1) (t.2.2.2.2.2.2.2.2.2.2.1) (t.2.2.2.2.2.2.2.2.2.2.2.1) (t.2.2.2.2.2.2.2.2.2.2.2.2.1) (t.2.2.2.2.2.2.2.2.2.2.2.2.2.1) (t.2.2.2.2.2.2.2.2.2.2.2.2.2.2.1) (t.2.2.2.2.2.2.2.2.2.2.2.2.2.2.2.1) (t.2.2.2.2.2.2.2.2.2.2.2.2.2.2.2.2.1) (t.2.2.2.2.2.2.2.2.2.2.2.2.2.2.2.2.2.1) (t.2.2.2.2.2.2.2.2.2.2.2.2.2.2.2.2.2.2.1) (t.2.2.2.2.2.2.2.2.2.2.2.2.2.2.2.2.2.2.2.1) (t.2.2.2.2.2.2.2.2.2.2.2.2.2.2.2.2.2.2.2.2.1) (t.2.2.2.2.2.2.2.2.2.2.2.2.2.2.2.2.2.2.2.2.2.1) (t.2.2.2.2.2.2.2.2.2.2.2.2.2.2.2.2.2.2.2.2.2.2.1) (t.2.2.2.2.2.2.2.2.2.2.2.2.2.2.2.2.2.2.2.2.2.2.2)
noncomputable def c9 : Vt9 := @Classical.epsilon Vt9 ne9 fun t => ¬ Sp9 t
@[irreducible] noncomputable def w : World := c9.1
@[irreducible] noncomputable def p : Program := c9.2.1
@[irreducible] noncomputable def loose : List Str := c9.2.2.1
@[irreducible] noncomputable def mean : ExcName → Option Value := c9.2.2.2.1
@[irreducible] noncomputable def mg : Str → Option Value := c9.2.2.2.2.1
@[irreducible] noncomputable def mb : Str → Option Value := c9.2.2.2.2.2.1
@[irreducible] noncomputable def news : CbLed := c9.2.2.2.2.2.2.1
@[irreducible] noncomputable def dp : Nat := c9.2.2.2.2.2.2.2.1
@[irreducible] noncomputable def un : Nat := c9.2.2.2.2.2.2.2.2.1
@[irreducible] noncomputable def gd : Option (List Code) := c9.2.2.2.2.2.2.2.2.2.1
@[irreducible] noncomputable def cn : Str := c9.2.2.2.2.2.2.2.2.2.2.1
@[irreducible] noncomputable def cs : Scope := c9.2.2.2.2.2.2.2.2.2.2.2.1
@[irreducible] noncomputable def a0 : Addr := c9.2.2.2.2.2.2.2.2.2.2.2.2.1
@[irreducible] noncomputable def ccd : Value := c9.2.2.2.2.2.2.2.2.2.2.2.2.2.1
@[irreducible] noncomputable def cl : List (Str × Addr) := c9.2.2.2.2.2.2.2.2.2.2.2.2.2.2.1
@[irreducible] noncomputable def outr : List Env := c9.2.2.2.2.2.2.2.2.2.2.2.2.2.2.2.1
@[irreducible] noncomputable def A₀ : Around := c9.2.2.2.2.2.2.2.2.2.2.2.2.2.2.2.2.1
@[irreducible] noncomputable def base : Heap := c9.2.2.2.2.2.2.2.2.2.2.2.2.2.2.2.2.2.1
@[irreducible] noncomputable def h₀ : Heap := c9.2.2.2.2.2.2.2.2.2.2.2.2.2.2.2.2.2.2.1
@[irreducible] noncomputable def L : Addr := c9.2.2.2.2.2.2.2.2.2.2.2.2.2.2.2.2.2.2.2.1
@[irreducible] noncomputable def m : Str → Option Value := c9.2.2.2.2.2.2.2.2.2.2.2.2.2.2.2.2.2.2.2.2.1
@[irreducible] noncomputable def s : Shared := c9.2.2.2.2.2.2.2.2.2.2.2.2.2.2.2.2.2.2.2.2.2.1
@[irreducible] noncomputable def Q : Value → Shared → Prop := c9.2.2.2.2.2.2.2.2.2.2.2.2.2.2.2.2.2.2.2.2.2.2.1
@[irreducible] noncomputable def E : Value → Shared → Prop := c9.2.2.2.2.2.2.2.2.2.2.2.2.2.2.2.2.2.2.2.2.2.2.2
set_option maxRecDepth 100000 in
set_option maxHeartbeats 8000000 in
theorem core9 : St9 w p loose mean mg mb news dp un gd cn cs a0 ccd cl outr A₀ base h₀ L m s Q E := by
  unfold St9 CgB P0
  k_fill
  intro hB hF hX hN hT hcs hdp hun hret
  have fin : ∀ (pre : CbLed) (x dx : Addr) (t1 t2 : Tok) (h' : Heap) (tk' : Nat), dx < x → (∀ q ∈ news, q.1 < dx) → Fr h₀ L h' m → News h₀ L h' (pre ++ (x, accObj dx [] 0) :: (dx, accDict w t1 t2) :: news) → Q (.ref x) { s with heap := h', toks := tk' } := by
    intro pre x dx t1 t2 h' tk' l2 l1 kF kN
    refine hret _ _ _ _ ⟨x, dx, 0, t1, t2, rfl, rfl, l2, l1⟩ kF (kst_newsOf kN ?_)
    intro q hq
    exact List.mem_append_right _ hq
  refine wpAny_call (make_L (K := hd.heap_39 w.params) (fI := 59) hF hN (Frag.In.keeps hX hF.keep) (by kernel_rfl) (by k_is) (by k_is) ?_)
  intro x dx h1 F1 N1 l1 l2
  refine' ks_code_super ?k1 ?k2 ?k3 ?k4 ?k5 ?kA ?kF ?kK ?k6 ?k7 ?k8 ?k9 ?kB ?_ ?c1 ?c2 ?c3 ?c4
  case kA => exact rfl
  case kF => exact rfl
  case kK => assumption
  case k1 => k_asm
  case k2 => k_asm
  case k3 => k_asm
  case k4 => k_asm
  case k5 => k_asm
  case k6 => k_is
  case k7 => k_is
  case k8 => ktr_room
  case k9 => first | exact BindsTo.of_eq rfl | exact binds_K (by k_in) rfl (by k_is) rfl rfl rfl
  case kB => exact locs rfl
  case c1 => decide
  case c2 => exact rfl
  case c3 => exact rfl
  case c4 => exact rfl
  intro g' L' h' FG' F' N' B' X' T' l3
  try dsimp only
  try k_lift B'
  rename Fr _ _ _ _ => F0
  repeat' (first | (k_unfold; (try dsimp only)) | ((fail_if_success (with_reducible show wpAny _ _ (exec (Stmt.While _ _ _ _) _) _ _ _)); (fail_if_success (with_reducible show wpAny _ _ (exec (Stmt.For _ _ _ _ _) _) _ _ _)); (fail_if_success (with_reducible show wpAny _ _ (pyIter _) _ _ _)); first | walk1 | (dsimp only; walk1)) | (leave1; (try dsimp only)))
  have X1 : (hd.heap_39 w.params).In h' := Frag.In.keeps X' F0.keep
  have I1 : InstAt h' x (accObj0 122 dx) 122 (some emptyDict) := ⟨(N' _ (.head _)).1, rfl, rfl, (N' _ (.tail _ (.head _))).1⟩
  refine set_plain (K := hd.heap_39 w.params) X1 I1 (by k_is) ?_
  obtain ⟨cd, hcd, hmro, hdic, hqn⟩ := cls122 w.params
  refine osaL (K := hd.heap_39 w.params) (pre := [(x, accObj0 122 dx)]) F0 N' X1 I1 rfl hcd hmro (by k_is) (by k_is) hdic ?_ ?_ (putAcc w _ _) rfl (Nat.le_of_ble_eq_true rfl) ?_
  · intro q hq
    rcases List.mem_cons.mp hq with rfl | hq
    · exact Nat.ne_of_gt l2
    · cases hq
  · intro q hq
    exact Nat.ne_of_lt (l1 q hq)
  intro h5 F5 N5
  dsimp only
  refine ks_wpAt_execs_cons ?_
  refine ks_wpAt_Expr_any ?_
  refine ks_wpAt_MethodCall ?_
  have I5 := (⟨(N5 (x, accObj0 122 dx) (.head _)).1, rfl, rfl, (N5 (dx, _) (.tail _ (.head _))).1⟩ : InstAt h5 x (accObj0 122 dx) 122 (some _))
  refine ks_node F5 (by k_asm) N5 (by k_asm) (by k_is) (by rfl) (by rfl) I5 (by k_is) (by rfl) (by first | rfl | decide +kernel) (by k_is) (by k_is) (by k_is) (by k_is) (by decide) (by rfl) (by rfl) (by rfl) (by rfl) (by decide +kernel) (by first | boot_by_name | rfl | kernel_rfl) ?_
  intro so h6 F6 N6 l6
  have I6 := (⟨(N6 (x, accObj0 122 dx) (.tail _ (.head _))).1, rfl, rfl, (N6 (dx, _) (.tail _ (.tail _ (.head _)))).1⟩ : InstAt h6 x (accObj0 122 dx) 122 (some _))
  have X6 : (hd.heap_39 w.params).In h6 := Frag.In.keeps X' F6.keep
  refine superB (K := hd.heap_39 w.params) (id := "list.__init__") (bo := { cls := .type "method-wrapper", data := .fields #[.builtin "list.__init__", .ref x] }) F6 X' N6 (.head _) I6 (by k_is) (by kernel_rfl) ty_init slot_wd_get.lookup (by decide) rfl (wd_init (isl X6 I6 (by k_is))) ?_
  intro b h7 F7 N7 l7
  refine callWith_B0 (N7 (b, _) (.head _)).1 (.inl rfl) ?_
  have hx7 : h7.get? x = some (accObj0 122 dx) := (N7 (x, accObj0 122 dx) (.tail _ (.tail _ (.head _)))).1
  refine wpAny_call (bound_slot (Bi := Builtin.«list.__init__») (N7 (b, _) (.head _)).1 (by decide +kernel) F.slot_list_init.plain (entryFor_of_tree (by kernel_rfl)) (by unfold argsOk; kernel_rfl) ?_)
  intro A'
  obtain ⟨F8, N8⟩ := news_upd (pre := [(b, _), (so, _)]) (f := Obj.mapSeq fun _ => #[]) F7 N7 (by
    intro q hq
    rcases List.mem_cons.mp hq with rfl | hq
    · exact Nat.ne_of_gt (l7 (x, accObj0 122 dx) (.tail _ (.head _)))
    · rcases List.mem_cons.mp hq with rfl | hq
      · exact Nat.ne_of_gt (l6 (x, accObj0 122 dx) (.head _))
      · cases hq) (by
    intro q hq
    rcases List.mem_cons.mp hq with rfl | hq
    · exact Nat.ne_of_lt l2
    · exact Nat.ne_of_lt (Nat.lt_trans (l1 q hq) l2)) (o' := accObj dx [] 0) (by rfl) rfl
  refine run_initP (n := 0) hx7 rfl ?_
  dsimp only
  refine wpAt_of_wpAny ?_
  repeat' (first | (k_unfold; (try dsimp only)) | ((fail_if_success (with_reducible show wpAny _ _ (exec (Stmt.While _ _ _ _) _) _ _ _)); (fail_if_success (with_reducible show wpAny _ _ (exec (Stmt.For _ _ _ _ _) _) _ _ _)); (fail_if_success (with_reducible show wpAny _ _ (pyIter _) _ _ _)); first | walk1 | (dsimp only; walk1)) | (leave1; (try dsimp only)))
  exact fin _ x dx _ _ _ _ l2 l1 ‹Fr h₀ L _ m› ‹News h₀ L _ _›
set_option maxHeartbeats 4000000 in
theorem all9 (q9 : Vt9) : Sp9 q9 := by
  refine @eps_all Vt9 ne9 Sp9 ?_ q9
  have h := core9
  unfold w p loose mean mg mb news dp un gd cn cs a0 ccd cl outr A₀ base h₀ L m s Q E at h
  exact h
end acc_ct_e
set_option maxHeartbeats 4000000 in
theorem acc_ct (w : World) (p : Program) (loose : List Str) (mean : ExcName → Option Value) (mg mb : Str → Option Value) (news : CbLed) : Cg w p loose mean mg mb 8 122 news []
      (fun v news' => ∃ x dx n t1 t2, v = .ref x ∧ news' = (x, accObj dx [] n) :: (dx, accDict w t1 t2) :: news ∧ dx < x ∧ ∀ q ∈ news, q.1 < dx) := by
  intro dp un gd cn cs a0 ccd cl outr A₀ base h₀ L m s Q E
  have h := acc_ct_e.all9 (w, p, loose, mean, mg, mb, news, dp, un, gd, cn, cs, a0, ccd, cl, outr, A₀, base, h₀, L, m, s, Q, E)
  dsimp only [acc_ct_e.Sp9, acc_ct_e.St9] at h
  exact h 
end Mine
end
section
open PySem PySem.W PyProof.Rows PySem.Calls PySem.Spec
namespace Mine
set_option maxRecDepth 100000 in
set_option maxHeartbeats 8000000 in
theorem pc_ct (w : World) (p : Program) (loose : List Str) (mean : ExcName → Option Value) (mg mb : Str → Option Value) (news : CbLed) (x dx : Addr) (vs : List Value) (n : Nat) (t1 t2 : Tok) (h1 : (x, accObj dx vs n) ∈ news) (h2 : (dx, accDict w t1 t2) ∈ news) :
    Cg w p loose mean mg mb 6 119 news [.ref x] (fun v news' => (∃ t, v = .int (vs.length : Nat) t) ∧ news' = news) := by
  unfold Cg P0
  k_fill
  intro dp un gd cn cs a0 ccd cl outr A₀ base h₀ L m s Q E hB hF hX hN hT hcs hdp hun hret
  have fin : ∀ (pre : CbLed) (t : Tok) (h' : Heap) (tk' : Nat), Fr h₀ L h' m → News h₀ L h' (pre ++ news) → Q (.int (vs.length : Nat) t) { s with heap := h', toks := tk' } := by
    intro pre t h' tk' kF kN
    refine hret _ _ _ _ ⟨⟨t, rfl⟩, rfl⟩ kF (kst_newsOf kN ?_)
    intro q hq
    exact List.mem_append_right _ hq
  refine wpAny_call ?_
  refine' ks_code_super ?k1 ?k2 ?k3 ?k4 ?k5 ?kA ?kF ?kK ?k6 ?k7 ?k8 ?k9 ?kB ?_ ?c1 ?c2 ?c3 ?c4
  case kA => exact rfl
  case kF => exact rfl
  case kK => assumption
  case k1 => k_asm
  case k2 => k_asm
  case k3 => k_asm
  case k4 => k_asm
  case k5 => k_asm
  case k6 => k_is
  case k7 => k_is
  case k8 => ktr_room
  case k9 => first | exact BindsTo.of_eq rfl | exact binds_K (by k_in) rfl (by k_is) rfl rfl rfl
  case kB => exact locs rfl
  case c1 => decide
  case c2 => exact rfl
  case c3 => exact rfl
  case c4 => exact rfl
  intro g' L' h' FG' F' N' B' X' T' l3
  try dsimp only
  try k_lift B'
  refine ks_wpAt_execs_cons ?_
  refine ks_wpAt_Return_some ?_
  refine ks_wpAt_MethodCall ?_
  have I5 := accInst N' h1 h2
  refine ks_node F' (by k_asm) N' (by k_asm) (by k_is) (by rfl) (by rfl) I5 (by k_is) (by rfl) (by first | rfl | decide +kernel) (by k_is) (by k_is) (by k_is) (by k_is) (by decide) (by rfl) (by rfl) (by rfl) (by rfl) (by decide +kernel) (by first | boot_by_name | rfl | kernel_rfl) ?_
  intro so h6 F6 N6 l6
  have I6 := accInst N6 (.tail _ h1) (.tail _ h2)
  have X6 : (hd.heap_39 w.params).In h6 := Frag.In.keeps X' F6.keep
  refine superB (K := hd.heap_39 w.params) (id := "list.__len__") (bo := { cls := .type "method-wrapper", data := .fields #[.builtin "list.__len__", .ref x] }) F6 X' N6 (.head _) I6 (by k_is) (by kernel_rfl) ty_len slot_wd_get.lookup (by decide) rfl (wd_len (isl X6 I6 (by k_is))) ?_
  intro b h7 F7 N7 l7
  refine callWith_B0 (N7 (b, _) (.head _)).1 (.inl rfl) ?_
  have hx7 : h7.get? x = some (accObj dx vs n) := (N7 (x, accObj dx vs n) (.tail _ (.tail _ h1))).1
  refine wpAny_call (bound_slot (Bi := Builtin.«list.__len__») (N7 (b, _) (.head _)).1 (by decide +kernel) F.slot_list_len.plain (entryFor_of_tree (by kernel_rfl)) (by unfold argsOk; kernel_rfl) ?_)
  intro A'
  refine run_lenP (n := n) hx7 rfl ?_
  dsimp only
  refine leaveK_ F7 N7 (fun F9 N9 => ?_)
  rw [List.size_toArray]
  exact fin [_, _] _ _ _ F9 N9
end Mine
end
section
open PySem PySem.W PyProof.Rows PySem.Calls PySem.Spec
namespace Mine
theorem pop_sig (x : Addr) : ∀ sig, Manifest.signature? "list.pop" = some sig → Bind.checkArgs "list.pop" { sig with full := s!"{(Str.ofString "_Accumulator").toString}.{Bind.lastOf "list.pop"}" } ⟨[.ref x], []⟩ = pure () := by
  intro sig hsig
  have e : (match Manifest.signature? "list.pop" with | none => pure () | some sig => Bind.checkArgs "list.pop" { sig with full := s!"{(Str.ofString "_Accumulator").toString}.{Bind.lastOf "list.pop"}" } ⟨[.ref x], []⟩) = pure () := by kernel_rfl
  rw [hsig] at e
  exact e
set_option maxRecDepth 100000 in
set_option maxHeartbeats 8000000 in
theorem pop_ct (w : World) (p : Program) (loose : List Str) (mean : ExcName → Option Value) (mg mb : Str → Option Value) (rest : CbLed) (x dx : Addr) (vs : List Value) (v : Value) (n : Nat) (t1 t2 : Tok) (hx : ∀ q ∈ rest, q.1 ≠ x) (hdx : dx ≠ x) (hn : vs.length ≤ 100) :
    Cg w p loose mean mg mb 12 82 ((x, accObj dx (vs ++ [v]) n) :: (dx, accDict w t1 t2) :: rest) [.ref x]
      (fun r news' => r = v ∧ news' = (x, accObj dx vs (n + 1)) :: (dx, accDict w t1 t2) :: rest) := by
  unfold Cg P0
  k_fill
  intro dp un gd cn cs a0 ccd cl outr A₀ base h₀ L m s Q E hB hF hX hN hT hcs hdp hun hret
  have fin : ∀ (pre : CbLed) (h' : Heap) (tk' : Nat), Fr h₀ L h' m → News h₀ L h' (pre ++ (x, accObj dx vs (n + 1)) :: (dx, accDict w t1 t2) :: rest) → Q v { s with heap := h', toks := tk' } := by
    intro pre h' tk' kF kN
    refine hret _ _ _ _ ⟨rfl, rfl⟩ kF (kst_newsOf kN ?_)
    intro q hq
    exact List.mem_append_right _ hq
  refine wpAny_call ?_
  refine' ks_code_super ?k1 ?k2 ?k3 ?k4 ?k5 ?kA ?kF ?kK ?k6 ?k7 ?k8 ?k9 ?kB ?_ ?c1 ?c2 ?c3 ?c4
  case kA => exact rfl
  case kF => exact rfl
  case kK => assumption
  case k1 => k_asm
  case k2 => k_asm
  case k3 => k_asm
  case k4 => k_asm
  case k5 => k_asm
  case k6 => k_is
  case k7 => k_is
  case k8 => ktr_room
  case k9 => first | exact BindsTo.of_eq rfl | exact binds_K (by k_in) rfl (by k_is) rfl rfl rfl
  case kB => exact locs rfl
  case c1 => decide
  case c2 => exact rfl
  case c3 => exact rfl
  case c4 => exact rfl
  intro g' L' h' FG' F' N' B' X' T' l3
  try dsimp only
  try k_lift B'
  have l0 : (vs ++ [v]).length = vs.length + 1 := by simp
  refine ks_wpAt_execs_cons ?_
  refine ks_wpAt_If ?_
  refine wpAt_of_wpAny ?_
  repeat' (first | (k_unfold; (try dsimp only)) | ((fail_if_success (with_reducible show wpAny _ _ (exec (Stmt.While _ _ _ _) _) _ _ _)); (fail_if_success (with_reducible show wpAny _ _ (exec (Stmt.For _ _ _ _ _) _) _ _ _)); (fail_if_success (with_reducible show wpAny _ _ (pyIter _) _ _ _)); first | walk1 | (dsimp only; walk1)) | (leave1; (try dsimp only)))
  refine acc_meth ‹Fr _ _ _ _› ‹(hd.heap_39 w.params).In _› ‹News _ _ _ _› (.head _) (.tail _ (.head _)) (by k_is) (by k_is) (by kernel_rfl) ?_
  repeat' (first | (k_unfold; (try dsimp only)) | ((fail_if_success (with_reducible show wpAny _ _ (exec (Stmt.While _ _ _ _) _) _ _ _)); (fail_if_success (with_reducible show wpAny _ _ (exec (Stmt.For _ _ _ _ _) _) _ _ _)); (fail_if_success (with_reducible show wpAny _ _ (pyIter _) _ _ _)); first | walk1 | (dsimp only; walk1)) | (leave1; (try dsimp only)))
  rename Fr _ _ _ _ => F1
  rename News _ _ _ _ => N1
  rename Below _ _ _ _ => B1
  rename Top _ _ _ _ _ _ => T1
  have X1 : (hd.heap_39 w.params).In _ := X'
  refine pc_ct w p loose mean mg mb _ x dx (vs ++ [v]) n t1 t2 (.head _) (.tail _ (.head _)) _ _ _ _ _ _ _ _ _ _ _ _ _ _ _ _ _ B1 F1 X1 N1 T1 (by rfl) (by dsimp only; omega) (by dsimp only; omega) ?_
  rintro v1 h2 tk2 news2 ⟨⟨tq, rfl⟩, rfl⟩ F2 N2
  clear F1 N1
  rw [l0]
  repeat' (first | (k_unfold; (try dsimp only)) | ((fail_if_success (with_reducible show wpAny _ _ (exec (Stmt.While _ _ _ _) _) _ _ _)); (fail_if_success (with_reducible show wpAny _ _ (exec (Stmt.For _ _ _ _ _) _) _ _ _)); (fail_if_success (with_reducible show wpAny _ _ (pyIter _) _ _ _)); (fail_if_success (with_reducible show PySem.wpAt _ _ _ _ _ _ _)); first | walk1 | (dsimp only; walk1)) | (leave1; (try dsimp only)))
  · exact absurd ‹((vs.length + 1 : Nat) : Int) = 0› (by omega)
  refine wpAt_of_wpAny ?_
  repeat' (first | (k_unfold; (try dsimp only)) | ((fail_if_success (with_reducible show wpAny _ _ (exec (Stmt.While _ _ _ _) _) _ _ _)); (fail_if_success (with_reducible show wpAny _ _ (exec (Stmt.For _ _ _ _ _) _) _ _ _)); (fail_if_success (with_reducible show wpAny _ _ (pyIter _) _ _ _)); (fail_if_success (with_reducible show PySem.wpAt _ _ _ _ _ _ _)); first | walk1 | (dsimp only; walk1)) | (leave1; (try dsimp only)))
  refine ks_wpAt_execs_cons ?_
  refine ks_wpAt_Return_some ?_
  refine ks_wpAt_MethodCall ?_
  rename Fr _ _ _ _ => F3
  rename News _ _ _ _ => N3
  have I5 := accInst N3 (.head _) (.tail _ (.head _))
  refine ks_node F3 (by k_asm) N3 (by k_asm) (by k_is) (by rfl) (by rfl) I5 (by k_is) (by rfl) (by first | rfl | decide +kernel) (by k_is) (by k_is) (by k_is) (by k_is) (by decide) (by rfl) (by rfl) (by rfl) (by rfl) (by decide +kernel) (by first | boot_by_name | rfl | kernel_rfl) ?_
  intro so h6 F6 N6 l6
  have I6 := accInst N6 (.tail _ (.head _)) (.tail _ (.tail _ (.head _)))
  have X6 : (hd.heap_39 w.params).In h6 := Frag.In.keeps X' F6.keep
  refine superB (K := hd.heap_39 w.params) (id := "list.pop") (bo := { cls := .type "builtin_function_or_method", data := .fields #[.builtin "list.pop", .ref x] }) F6 X' N6 (.head _) I6 (by k_is) (by kernel_rfl) ty_pop slot_md_get.lookup (by decide) rfl (md_pop (isl X6 I6 (by k_is))) ?_
  intro b h7 F7 N7 l7
  refine callWith_B0 (N7 (b, _) (.head _)).1 (.inr rfl) ?_
  have I7 := accInst N7 (.tail _ (.tail _ (.head _))) (.tail _ (.tail _ (.tail _ (.head _))))
  have X7 : (hd.heap_39 w.params).In h7 := Frag.In.keeps X' F7.keep
  have hx7 : h7.get? x = some (accObj dx (vs ++ [v]) n) := (N7 (x, accObj dx (vs ++ [v]) n) (.tail _ (.tail _ (.head _)))).1
  obtain ⟨cd, hcd, hmro, hdic, hqn⟩ := cls122 w.params
  refine wpAny_call (bound_meth (K := hd.heap_39 w.params) (Bi := Builtin.«list.pop») (N7 (b, _) (.head _)).1 X7 I7 hcd (by k_is) (by k_is) (by decide +kernel) (by decide +kernel) F.slot_list_pop.plain F.entry_list_pop ?_ ?_)
  · rw [hqn]
    exact pop_sig x
  intro A'
  refine run_popP (y := v) hx7 (by simp; omega) (by simp) ?_
  dsimp only
  obtain ⟨F8, N8⟩ := news_upd (pre := [(b, _), (so, _)]) (f := Obj.mapSeq fun z => z.eraseIdxIfInBounds ((vs ++ [v]).toArray.size - 1)) F7 N7 (by
    intro q hq
    rcases List.mem_cons.mp hq with rfl | hq
    · exact Nat.ne_of_gt (l7 (x, accObj dx (vs ++ [v]) n) (.tail _ (.head _)))
    · rcases List.mem_cons.mp hq with rfl | hq
      · exact Nat.ne_of_gt (l6 (x, accObj dx (vs ++ [v]) n) (.head _))
      · cases hq) (by
    intro q hq
    rcases List.mem_cons.mp hq with rfl | hq
    · exact hdx
    · exact hx q hq) popSeq rfl
  exact leaveK_ F8 N8 (fun F9 N9 => fin [_, _] _ _ F9 N9)
end Mine
end
section
open PySem PySem.W PyProof.Rows PySem.Calls PySem.Spec
namespace Mine
set_option maxRecDepth 100000 in
set_option maxHeartbeats 8000000 in
theorem pop0_ct (w : World) (p : Program) (loose : List Str) (mean : ExcName → Option Value) (mg mb : Str → Option Value) (rest : CbLed) (x dx : Addr) (n : Nat) (t1 t2 : Tok) :
    Cg w p loose mean mg mb 12 82 ((x, accObj dx [] n) :: (dx, accDict w t1 t2) :: rest) [.ref x]
      (fun r news' => ∃ T ta tb, r = .ref T ∧ news' = (T, tupObj (.str (Str.ofString "") ta) (.str (Str.ofString "") tb)) :: (x, accObj dx [] n) :: (dx, accDict w t1 t2) :: rest) := by
  unfold Cg P0
  k_fill
  intro dp un gd cn cs a0 ccd cl outr A₀ base h₀ L m s Q E hB hF hX hN hT hcs hdp hun hret
  have fin : ∀ (T : Addr) (ta tb : Tok) (h' : Heap) (tk' : Nat), Fr h₀ L h' m → News h₀ L h' ((T, tupObj (.str (Str.ofString "") ta) (.str (Str.ofString "") tb)) :: (x, accObj dx [] n) :: (dx, accDict w t1 t2) :: rest) → Q (.ref T) { s with heap := h', toks := tk' } := by
    intro T ta tb h' tk' kF kN
    exact hret _ _ _ _ ⟨T, ta, tb, rfl, rfl⟩ kF kN
  refine wpAny_call ?_
  refine' ks_code_super ?k1 ?k2 ?k3 ?k4 ?k5 ?kA ?kF ?kK ?k6 ?k7 ?k8 ?k9 ?kB ?_ ?c1 ?c2 ?c3 ?c4
  case kA => exact rfl
  case kF => exact rfl
  case kK => assumption
  case k1 => k_asm
  case k2 => k_asm
  case k3 => k_asm
  case k4 => k_asm
  case k5 => k_asm
  case k6 => k_is
  case k7 => k_is
  case k8 => ktr_room
  case k9 => first | exact BindsTo.of_eq rfl | exact binds_K (by k_in) rfl (by k_is) rfl rfl rfl
  case kB => exact locs rfl
  case c1 => decide
  case c2 => exact rfl
  case c3 => exact rfl
  case c4 => exact rfl
  intro g' L' h' FG' F' N' B' X' T' l3
  try dsimp only
  try k_lift B'
  refine ks_wpAt_execs_cons ?_
  refine ks_wpAt_If ?_
  refine wpAt_of_wpAny ?_
  repeat' (first | (k_unfold; (try dsimp only)) | ((fail_if_success (with_reducible show wpAny _ _ (exec (Stmt.While _ _ _ _) _) _ _ _)); (fail_if_success (with_reducible show wpAny _ _ (exec (Stmt.For _ _ _ _ _) _) _ _ _)); (fail_if_success (with_reducible show wpAny _ _ (pyIter _) _ _ _)); first | walk1 | (dsimp only; walk1)) | (leave1; (try dsimp only)))
  refine acc_meth ‹Fr _ _ _ _› ‹(hd.heap_39 w.params).In _› ‹News _ _ _ _› (.head _) (.tail _ (.head _)) (by k_is) (by k_is) (by kernel_rfl) ?_
  repeat' (first | (k_unfold; (try dsimp only)) | ((fail_if_success (with_reducible show wpAny _ _ (exec (Stmt.While _ _ _ _) _) _ _ _)); (fail_if_success (with_reducible show wpAny _ _ (exec (Stmt.For _ _ _ _ _) _) _ _ _)); (fail_if_success (with_reducible show wpAny _ _ (pyIter _) _ _ _)); first | walk1 | (dsimp only; walk1)) | (leave1; (try dsimp only)))
  rename Fr _ _ _ _ => F1
  rename News _ _ _ _ => N1
  rename Below _ _ _ _ => B1
  rename Top _ _ _ _ _ _ => T1
  have X1 : (hd.heap_39 w.params).In _ := X'
  refine pc_ct w p loose mean mg mb _ x dx [] n t1 t2 (.head _) (.tail _ (.head _)) _ _ _ _ _ _ _ _ _ _ _ _ _ _ _ _ _ B1 F1 X1 N1 T1 (by rfl) (by dsimp only; omega) (by dsimp only; omega) ?_
  rintro v1 h2 tk2 news2 ⟨⟨tq, rfl⟩, rfl⟩ F2 N2
  clear F1 N1
  repeat' (first | (k_unfold; (try dsimp only)) | ((fail_if_success (with_reducible show wpAny _ _ (exec (Stmt.While _ _ _ _) _) _ _ _)); (fail_if_success (with_reducible show wpAny _ _ (exec (Stmt.For _ _ _ _ _) _) _ _ _)); (fail_if_success (with_reducible show wpAny _ _ (pyIter _) _ _ _)); (fail_if_success (with_reducible show PySem.wpAt _ _ _ _ _ _ _)); first | walk1 | (dsimp only; walk1)) | (leave1; (try dsimp only)))
  refine wpAt_of_wpAny ?_
  repeat' (first | (k_unfold; (try dsimp only)) | ((fail_if_success (with_reducible show wpAny _ _ (exec (Stmt.While _ _ _ _) _) _ _ _)); (fail_if_success (with_reducible show wpAny _ _ (exec (Stmt.For _ _ _ _ _) _) _ _ _)); (fail_if_success (with_reducible show wpAny _ _ (pyIter _) _ _ _)); (fail_if_success (with_reducible show wpAny _ _ (getMethod (Value.ref _) _ _) _ _ _)); (fail_if_success (with_reducible show wpAny _ _ (call (Value.ref _) _) _ _ _)); first | walk1 | (dsimp only; walk1)) | (leave1; (try dsimp only)))
  rename News h₀ L _ _ => kN
  rename Fr h₀ L _ _ => kF
  exact fin _ _ _ _ _ kF kN
end Mine
end
section
open PySem PySem.W PyProof.Rows PySem.Calls PySem.Spec
set_option maxRecDepth 100000
set_option maxHeartbeats 4000000
namespace Mine
def clsBody : Stmt → List Stmt
  | .ClassDef _ _ _ body _ _ _ _ _ _ _ => body
  | _ => []
def strB : List Stmt := bodyOf ((clsBody (topStmt 12)).getD 5 (.Pass default))
def strS : Scope := scopeOf ((clsBody (topStmt 12)).getD 5 (.Pass default))
def strG : PySem.Expr := match strB with
  | [.Return (some (.Call _ [g] _ _)) _] => g
  | _ => default
def gElt : PySem.Expr := match strG with
  | .GeneratorExp elt _ _ _ => elt
  | _ => default
def gSc : Scope := match strG with
  | .GeneratorExp _ _ sc _ => sc
  | _ => default
def gPos : Pos := match strG with
  | .GeneratorExp _ _ _ p => p
  | _ => default
theorem ofL_app (a b : List Nat) : ofL a ++ ofL b = ofL (a ++ b) := by
  show (⟨(ofL a).cps ++ (ofL b).cps⟩ : Str) = _
  simp [ofL]
theorem join_flat : ∀ ls : List (List Nat), Txt.join (Str.ofString "") (ls.map ofL) = ofL ls.flatten := by
  intro ls
  show PySem.Builtin.Str.glued _ _ = _
  rw [StrLaws.glued_eq_join]
  induction ls with
  | nil => rfl
  | cons a r ih =>
    cases r with
    | nil => simp [Str.join]
    | cons b r =>
      show ofL a ++ Str.ofString "" ++ Str.join (Str.ofString "") ((b :: r).map ofL) = _
      rw [ih]
      have e0 : Str.ofString "" = ofL [] := rfl
      rw [e0, ofL_app, ofL_app]
      simp
theorem long_flat (ls : List (List Nat)) (h : ls.flatten.length ≤ 1000) : PySem.Builtin.Str.tooLong ((ls.map ofL).toArray.foldl (· + ·.length + (Str.ofString "").length) 0) = false := by
  have e0 : (Str.ofString "").length = 0 := rfl
  have e : ∀ (ls : List (List Nat)) (n : Nat), (ls.map ofL).foldl (fun (a : Nat) (b : Str) => a + b.length + (Str.ofString "").length) n = n + ls.flatten.length := by
    intro ls
    induction ls with
    | nil => intro n; simp
    | cons a r ih =>
      intro n
      rw [List.map_cons, List.foldl_cons, ih, ofL_len, e0, List.flatten_cons, List.length_append]
      omega
  unfold PySem.Builtin.Str.tooLong
  rw [List.foldl_toArray, e, sizeLine_eq, decide_eq_false_iff_not]
  omega
section
variable {prog : Program} {w : World} {A : Around} {E : Value → Shared → Prop} {u : Shared}
abbrev gEnv (C : Addr) (code : Value) (L : Addr) : Env := genEnv gSc [] C code builtinsNs (envOf (Str.ofString "_Accumulator.__str__") strS L 96 (.ref 95))
theorem elt_ok {C L : Addr} {code : Value} {m₂ mg : Str → Option Value} {a b : List Nat} {te ta tb : Tok}
    (hn : u.heap.Ns C m₂) (ha : m₂ (Str.ofString "fws") = some (.str (ofL a) ta)) (hb : m₂ (Str.ofString "part") = some (.str (ofL b) tb)) (hg : u.heap.Ns mainGlobals mg) (hmg : mg (Str.ofString "EMPTYSTRING") = some (.str (Str.ofString "") te)) (hla : a.length ≤ 100) (hlb : b.length ≤ 100) :
    wpAny (model prog w) A (eval gElt (gEnv C code L)) (fun y s₃ => (∃ t, y = .str (ofL (a ++ b)) t) ∧ Keeps u s₃) E u := by
  have e : gElt = .Call (.Attribute (.Name (Str.ofString "EMPTYSTRING") { line := 105, col := 33, endLine := 105, endCol := 44 }) (Str.ofString "join") { line := 105, col := 33, endLine := 105, endCol := 49 }) [.Tuple [.Name (Str.ofString "fws") { line := 105, col := 51, endLine := 105, endCol := 54 }, .Name (Str.ofString "part") { line := 105, col := 56, endLine := 105, endCol := 60 }] 0 { line := 105, col := 50, endLine := 105, endCol := 61 }] [] { line := 105, col := 33, endLine := 105, endCol := 62 } := rfl
  rw [e]
  refine MethodCall_ ?_
  refine Name_function_global rfl rfl (loadGlobal_global hg hmg ?_) (by decide)
  refine GM.join ?_
  refine callWith_method1 ?_
  refine wpAny_items_cons ?_
  refine wpAny_Tuple ?_
  refine wpAny_items_cons ?_
  refine wpAny_Name (wpAny_loadName_local rfl rfl hn ha ?_) (by decide)
  refine wpAny_items_cons ?_
  refine wpAny_Name (wpAny_loadName_local rfl rfl hn hb ?_) (by decide)
  refine wpAny_items_nil ?_
  refine ⟨by rw [sizeLine_eq]; show 2 ≤ _; decide, ?_⟩
  refine wpAny_items_nil ?_
  refine call_meets F.slot_str_join (typeIs_str _ _ _) F.entry_str_join (F.args_str_join_2 _ _) (meets_str_join_tuple _ _ _ [(ofL a, ta), (ofL b, tb)] (long_flat [a, b] (by simp; omega))) ⟨⟨_, 0, Heap.get?_push_size _ rfl, rfl, rfl⟩, ?_⟩
  refine post_join _ ⟨?_, fun t' k => ⟨⟨t', ?_⟩, _, _, rfl, fun b o e => Heap.get?_push_of_some _ e⟩⟩
  · show (Txt.join (Str.ofString "") ([a, b].map ofL)).length ≤ _
    rw [join_flat, ofL_len, sizeLine_eq]; simp; omega
  · show Value.str (Txt.join (Str.ofString "") ([a, b].map ofL)) t' = _
    rw [join_flat]; simp
end
end Mine
end
section
open PySem PySem.W PyProof.Rows PySem.Calls PySem.Spec
set_option maxRecDepth 100000
set_option maxHeartbeats 4000000
namespace Mine
def SeqAt (h : Heap) (a : Addr) (items : Array Value) : Prop := ∃ o n, h.get? a = some o ∧ o.data = .seq items n
theorem SeqAt.keep {h h' : Heap} {a : Addr} {items : Array Value} (x : SeqAt h a items) (k : ∀ o, h.get? a = some o → h'.get? a = some o) : SeqAt h' a items :=
  let ⟨o, n, e, d⟩ := x; ⟨o, n, k o e, d⟩
section
variable {prog : Program} {w : World} {A : Around} {E : Value → Shared → Prop} {s : Shared}
theorem acc_next {it l : Addr} {i : Nat} {items : Array Value} {x : Value} {Q : Option Value → Shared → Prop} (hit : s.heap.IsListIter it l i) (hl : SeqAt s.heap l items) (hx : items[i]? = some x)
    (hQ : ∀ h', h'.IsListIter it l (i + 1) → Heap.SameBut it s.heap h' → Q (some x) { s with heap := h' }) : wpAny (model prog w) A (pyNext (.ref it)) Q E s := by
  have ti := hit.typeIs
  obtain ⟨o, ho, hc, hd⟩ := hit
  obtain ⟨ol, nl, hol, hdl⟩ := hl
  unfold pyNext
  refine wpAny_bind (wpAny_attempt (wpAny_callSpecial?_slot (name := Str.ofString "__next__") ti slot_listiter_next (wpAny_call_entry slot_listiter_next ti entry_listiter_next ?_ (args_listiter_next _))))
  refine wpAny_bind (m := slotArgs "__next__" 0 _) (wpAny_pure ?_)
  dsimp only
  refine wpAny_bind (wpAny_field ho hd (x := .ref l) rfl ?_)
  rw [if_neg (show ¬ ((Value.ref l == Value.none) = true) from Bool.false_ne_true)]
  refine wpAny_bind (wpAny_field ho hd (x := .int i 0) rfl ?_)
  dsimp only
  refine wpAny_bind (wpAny_seqItems hol hdl ?_)
  dsimp only
  rw [show ((i : Nat) : Int).toNat = i from Int.toNat_natCast i, hx]
  dsimp only
  refine wpAny_bind (wpAny_setField ho hd (by simp) (wpAny_pure ⟨x, rfl, wpAny_pure (hQ _ ?_ (Heap.SameBut.update ..))⟩))
  exact ⟨_, Heap.get?_update_self _ ho (Obj.isFreed_of_fields (Obj.data_mapFields hd _)), (Obj.cls_mapFields ..).trans hc, by rw [Obj.data_mapFields hd]; simp [rawInt]⟩
theorem acc_stop {it l : Addr} {i : Nat} {items : Array Value} {Q : Option Value → Shared → Prop} (hh : A.handled = none) (hit : s.heap.IsListIter it l i) (hl : SeqAt s.heap l items) (hx : items[i]? = none)
    (hQ : ∀ h', Heap.ExtBut it s.heap h' → Q none { s with heap := h' }) : wpAny (model prog w) A (pyNext (.ref it)) Q E s := by
  have ti := hit.typeIs
  obtain ⟨o, ho, hc, hd⟩ := hit
  obtain ⟨ol, nl, hol, hdl⟩ := hl
  unfold pyNext
  refine wpAny_bind (wpAny_attempt (wpAny_callSpecial?_slot (name := Str.ofString "__next__") ti slot_listiter_next (wpAny_call_entry slot_listiter_next ti entry_listiter_next ?_ (args_listiter_next _))))
  refine wpAny_bind (m := slotArgs "__next__" 0 _) (wpAny_pure ?_)
  dsimp only
  refine wpAny_bind (wpAny_field ho hd (x := .ref l) rfl ?_)
  rw [if_neg (show ¬ ((Value.ref l == Value.none) = true) from Bool.false_ne_true)]
  refine wpAny_bind (wpAny_field ho hd (x := .int i 0) rfl ?_)
  dsimp only
  refine wpAny_bind (wpAny_seqItems hol hdl ?_)
  dsimp only
  rw [show ((i : Nat) : Int).toNat = i from Int.toNat_natCast i, hx]
  dsimp only
  refine wpAny_bind (wpAny_rule (wpAny_bind (wpAny_setField ho hd (by simp) ?_)))
  unfold Builtin.SmallTypes.stopIteration
  simp only [newExc, newTuple, raiseNew]
  refine wpAny_bind (wpAny_bind (wpAny_newObj_type ?_ (by size_fits)))
  refine wpAny_bind (m := firstArgMember _ _) (wpAny_of_eq (a := Value.none) (by first | rfl | (simp only [firstArgMember]; rfl)) ?_)
  refine wpAny_newObj_type ?_ (by size_fits)
  refine wpAny_bind (wpAny_handled ?_)
  rw [show A.in1.handled = none from hh]
  refine wpAny_throw ?_
  refine wpAny_bind (wpAny_isInstance (T := "StopIteration") (b := true) ⟨_, Heap.get?_push_size _ rfl, rfl⟩ isSubtype_stop ?_)
  exact wpAny_pure (hQ _ (((Heap.SameBut.update ..).extBut.push _).push _))
/-- the turns of an iterator over an accumulator whose items are tuples -/
theorem acc_walks (hh : A.handled = none) (I ax : Addr) (hne : ax ≠ I) (items : Array Value) (Ts : Nat → Addr) (vals : Nat → Array Value) (hit : ∀ j, j < items.size → items[j]? = some (.ref (Ts j))) (hTI : ∀ j, j < items.size → Ts j ≠ I) :
    WalksU prog w A I (I :: ax :: (List.range items.size).map Ts) [I] items.size (fun j v => j < items.size ∧ v = vals j)
      (fun j h => h.IsListIter I ax j ∧ SeqAt h ax items ∧ ∀ k, k < items.size → h.IsTuple (Ts k) (vals k))
      (fun j T h => (j < items.size ∧ T = Ts j) ∧ h.IsListIter I ax (j + 1) ∧ SeqAt h ax items ∧ ∀ k, k < items.size → h.IsTuple (Ts k) (vals k)) where
  sub := by intro b hb; rw [List.mem_singleton.mp hb]; exact .head _
  frame := by
    rintro i h h' ⟨a, b, c⟩ hk
    exact ⟨a.at fun o e => hk I (.head _) o e, b.keep fun o e => hk ax (.tail _ (.head _)) o e, fun k hk' => (c k hk').at fun o e => hk (Ts k) (.tail _ (.tail _ (List.mem_map.mpr ⟨k, List.mem_range.mpr hk', rfl⟩))) o e⟩
  item := by
    rintro i s Q E hi ⟨a, b, c⟩ hQ
    refine acc_next a b (hit i hi) fun h' a' sb => ?_
    have tup : ∀ k, k < items.size → h'.IsTuple (Ts k) (vals k) := fun k hk' => (c k hk').extBut sb.extBut (hTI k hk')
    exact hQ (Ts i) (vals i) h' s.toks ⟨hi, rfl⟩ (tup i hi) ⟨⟨hi, rfl⟩, a', b.keep fun o e => sb.extBut _ o hne e, tup⟩ fun b o hb e => sb.extBut b o (fun h => hb (h ▸ .head _)) e
  go := by
    rintro _ _ _ _ _ s Q _ ⟨_, m⟩ hQ
    exact wpAny_letOwnedTupleGo_listiter m.1 (hQ s.heap m fun _ _ _ e => e)
  apart := by
    rintro j T h ⟨⟨h1, rfl⟩, _⟩ hm
    exact hTI j h1 (List.mem_singleton.mp hm)
  done := by
    rintro s Q E ⟨a, b, c⟩ hQ
    exact acc_stop hh a b (by simp) fun h' he => hQ h' s.toks fun b o hb e => he b o (fun h => hb (h ▸ .head _)) e
  self := by
    rintro _ s Q E ⟨a, _⟩ hQ
    exact wpAny_pyIter_listiter a hQ
end
end Mine
end
section
open PySem PySem.W PyProof.Rows PySem.Calls PySem.Spec
set_option maxRecDepth 100000
set_option maxHeartbeats 4000000
namespace Mine
/-- a piece of an accumulator: the tuple's address, its two texts with their marks -/
structure Pc where
  T : Addr
  a : List Nat
  ta : Tok
  b : List Nat
  tb : Tok
abbrev Pc.obj (p : Pc) : Obj := tupObj (.str (ofL p.a) p.ta) (.str (ofL p.b) p.tb)
abbrev pcVals (ps : List Pc) : List Value := ps.map fun p => .ref p.T
abbrev sEnv (L : Addr) : Env := envOf (Str.ofString "_Accumulator.__str__") strS L 96 (.ref 95)
def GenS (prog : Program) (w : World) (A : Around) (L a : Addr) (ps : List Pc) (s : Shared) : Prop :=
  Gen prog w A L a ps.length (fun j y => ∃ p u, ps[j]? = some p ∧ y = .str (ofL (p.a ++ p.b)) u) s
section
variable {prog : Program} {w : World} {A : Around} {E : Value → Shared → Prop} {s : Shared} {h₀ : Heap} {L x P dx : Addr} {m mg : Str → Option Value} {K : Frag} {ox : Obj} {od : Option Obj} {n : Nat} {ps : List Pc} {bm : Addr} {ob : Obj} {te : Tok}
theorem gen_core {hN : Value → Heap} {C : Value → Prop} {pv : Array Value} {Q : Value → Shared → Prop} (F : Fr h₀ L s.heap m) (M : BMod h₀ mainGlobals mg bm ob) (hE : mg (Str.ofString "EMPTYSTRING") = some (.str (Str.ofString "") te)) (G : AllBare s.gens) (hlim : s.heap.NoLimit)
    (hh : A.handled = none) (hroom : A.depth < recursionLimit) (hself : m (Str.ofString "self") = some (.ref x)) (X : K.In h₀) (I : InstAt s.heap x ox 122 od) (hmr : mroIn K 122 (.type "list") = some true) (hit : findIn K (.ref 122) "__iter__" = some (some (.builtin "list.__iter__")))
    (hx : h₀.get? x = some ox) (hd : ox.data = .seq (pcVals ps).toArray n) (ht : ∀ p ∈ ps, h₀.get? p.T = some p.obj) (hlen : ∀ p ∈ ps, p.a.length ≤ 100 ∧ p.b.length ≤ 100)
    (hPo : h₀.get? P = some { cls := .none, data := .fields pv }) (hPc : P ≠ cStatics)
    (hcode : ∀ (s₂ : Shared) (Q : Value → Shared → Prop), Fr h₀ L s₂.heap m → (∀ c' h₃ tk₃, C c' → (∀ b o, b ≠ P → s₂.heap.get? b = some o → h₃.get? b = some o) → s₂.heap.objs.size ≤ h₃.objs.size → Fr (hN c') L h₃ m → Q c' { s₂ with heap := h₃, toks := tk₃ }) → wpAny (model prog w) A (genexprCode (sEnv L) gPos ((sEnv L).qual ++ "<genexpr>") gSc) Q E s₂)
    (hQ : ∀ c' a s₅, C c' → Fr (hN c') L s₅.heap m → AllBare s₅.gens → s₅.os = s.os → GenS prog w A L a ps s₅ → Q (.ref a) s₅) :
    wpAny (model prog w) A (eval strG (sEnv L)) Q E s := by
  obtain ⟨pa, pb, kt, pt, pi, e⟩ : ∃ pa pb kt pt pi, strG = .GeneratorExp gElt [⟨.Tuple [.Name (Str.ofString "fws") pa, .Name (Str.ofString "part") pb] kt pt, .Name (Str.ofString "self") pi, [], 0⟩] gSc gPos := ⟨_, _, _, _, _, rfl⟩
  rw [e]
  refine wpAny_GeneratorExp_walksQTD (cl := []) hh rfl rfl (by decide) rfl rfl rfl (by decide) rfl hroom ?_ (fun _ => rfl)
  refine ld F hself ?_
  have XS := X.keeps F.keep
  refine acc_iter hmr XS I hit ?_
  have k2 : ∀ b o, s.heap.get? b = some o → (s.heap.push { cls := .type "list_iterator", data := .fields #[.ref x, .int 0 0] }).get? b = some o := fun b o e => Heap.get?_push_of_some _ e
  have F2 := F.keeps k2
  refine ⟨hlim.push _, hcode _ _ F2 fun c' h₃ tk₃ hCc k3 sz3 F3 => ?_⟩
  have gP : mainGlobals ≠ P := fun e => by
    obtain ⟨o, es, ep, ho, hd, _⟩ := M.ns
    rw [e, hPo] at ho; cases ho; cases hd
  have bP : bm ≠ P := fun e => by
    have z := M.obj
    rw [e, hPo] at z; cases z; exact absurd M.cls (by simp)
  have up : ∀ b o, b ≠ P → h₀.get? b = some o → h₃.get? b = some o := fun b o hb e => k3 b o hb (F2.keep b o e)
  have M3 : BMod h₃ mainGlobals mg bm ob := ⟨M.ns.extBut (fun b o hb e => up b o hb e) gP, M.name, M.ne, up _ _ bP M.obj, M.cls, M.dict, M.data⟩
  refine wpAny_builtinsFor M3.ns M3.name M3.ne M3.obj M3.cls M3.dict M3.data ?_
  have xP : x ≠ P := fun e => by rw [e, hPo] at hx; cases hx; cases hd
  have tP : ∀ p ∈ ps, p.T ≠ P := fun p hp e => by have z := ht p hp; rw [e, hPo] at z; cases z
  have xlt : x < s.heap.objs.size := Heap.lt_size (F.keep _ _ hx)
  have Plt : P < s.heap.objs.size := Heap.lt_size (F.keep _ _ hPo)
  have tlt : ∀ p ∈ ps, p.T < s.heap.objs.size := fun p hp => Heap.lt_size (F.keep _ _ (ht p hp))
  have Llt : L < s.heap.objs.size := F.ns.lt
  rw [Heap.size_push] at sz3
  have hsz : (pcVals ps).toArray.size = ps.length := by simp
  have at' : ∀ j, j < (pcVals ps).toArray.size → ∃ p, ps[j]? = some p ∧ p ∈ ps := fun j hj => ⟨ps[j]'(hsz ▸ hj), by simp [hsz ▸ hj], List.getElem_mem _⟩
  let Ts : Nat → Addr := fun j => (ps[j]?.map Pc.T).getD 0
  let vals : Nat → Array Value := fun j => (ps[j]?.map fun p => (#[.str (ofL p.a) p.ta, .str (ofL p.b) p.tb] : Array Value)).getD #[]
  have hTs : ∀ (h : Heap), (∀ p ∈ ps, h.get? p.T = some p.obj) → ∀ j, j < (pcVals ps).toArray.size → h.IsTuple (Ts j) (vals j) := fun h hk j hj => by
    obtain ⟨p, e, hm⟩ := at' j hj
    simp only [Ts, vals, e, Option.map_some, Option.getD_some]
    exact ⟨_, hk p hm, rfl, _, rfl⟩
  have hIt : ∀ j, j < (pcVals ps).toArray.size → (pcVals ps).toArray[j]? = some (.ref (Ts j)) := fun j hj => by
    obtain ⟨p, e, _⟩ := at' j hj
    simp [Ts, e]
  have hTlt : ∀ j, j < (pcVals ps).toArray.size → Ts j < s.heap.objs.size := fun j hj => by
    obtain ⟨p, e, hm⟩ := at' j hj
    simp only [Ts, e, Option.map_some, Option.getD_some]; exact tlt p hm
  have W : ∀ A' : Around, A'.handled = none → _ := fun A' hA => acc_walks (prog := prog) (w := w) (A := A') hA s.heap.objs.size x (Nat.ne_of_lt xlt) (pcVals ps).toArray Ts vals hIt fun j hj => Nat.ne_of_lt (hTlt j hj)
  have hpI : P ≠ s.heap.objs.size := Nat.ne_of_lt Plt
  have it3 : h₃.get? s.heap.objs.size = some { cls := .type "list_iterator", data := .fields #[.ref x, .int 0 0] } := k3 _ _ (Ne.symm hpI) (Heap.get?_push_size _ rfl)
  have ht3 : ∀ p ∈ ps, h₃.get? p.T = some p.obj := fun p hp => up _ _ (tP p hp) (ht p hp)
  have lim3 : h₃.NoLimit := (hlim.push _).extBut (fun b o hb e => k3 b o hb e) (Ne.symm hPc)
  have gI : mainGlobals ≠ s.heap.objs.size := by
    obtain ⟨o, es, ep, ho, _⟩ := M.ns
    exact Nat.ne_of_lt (Heap.lt_size (F.keep _ _ ho))
  have cI : cStatics ≠ s.heap.objs.size := by
    obtain ⟨_, hn, _⟩ := hlim
    exact Nat.ne_of_lt hn.lt
  refine ⟨s.heap.objs.size, _, [s.heap.objs.size], (pcVals ps).toArray.size, _, _, _, fun _ => true, fun j y => ∃ p u, ps[j]? = some p ∧ y = .str (ofL (p.a ++ p.b)) u, rfl, W, ?_, ⟨⟨_, it3, rfl, rfl⟩, ⟨_, _, up _ _ xP hx, hd⟩, hTs _ ht3⟩, ?_, lim3, ?_, ?_, ?_⟩
  · rintro i v ⟨hi, rfl⟩
    obtain ⟨p, e, _⟩ := at' i hi
    exact ⟨_, _, by simp only [vals, e, Option.map_some, Option.getD_some]; rfl⟩
  · intro b hb
    show b < h₃.objs.size
    rcases List.mem_cons.mp hb with rfl | hb
    · exact sz3
    · rcases List.mem_cons.mp hb with rfl | hb
      · exact Nat.lt_of_lt_of_le xlt (Nat.le_of_succ_le sz3)
      · obtain ⟨j, hj, rfl⟩ := List.mem_map.mp hb
        exact Nat.lt_of_lt_of_le (hTlt j (List.mem_range.mp hj)) (Nat.le_of_succ_le sz3)
  · intro hm; exact cI (List.mem_singleton.mp hm)
  · intro href hk
    refine ⟨fun A' E' i va vb t m₂ hA hD hU hP hn hma hmb hkp => wpAny_pure ⟨rfl, _, _, rfl, fun _ _ e => e⟩, fun A' E' i va vb t m₂ hA hD hU hP hp hn hma hmb hkp => ?_⟩
    obtain ⟨hi, ev⟩ := hP
    obtain ⟨p, ep, hm⟩ := at' i hi
    simp only [vals, ep, Option.map_some, Option.getD_some] at ev
    obtain ⟨e1, e2⟩ : va = .str (ofL p.a) p.ta ∧ vb = .str (ofL p.b) p.tb := by simpa using congrArg Array.toList ev
    subst e1 e2
    have g3 : t.heap.Ns mainGlobals mg := M3.ns.at' fun o e => hkp mainGlobals (List.mem_range.mpr (Heap.lt_size e)) (fun hm => by
      exact gI (List.mem_singleton.mp hm)) o (hk _ _ e)
    refine wpAny_mono (elt_ok hn hma hmb g3 hE (hlen p hm).1 (hlen p hm).2) (fun y s₃ r => ?_) fun _ _ z => z
    obtain ⟨⟨u, rfl⟩, K⟩ := r
    exact ⟨⟨p, u, ep, rfl⟩, K⟩
  · intro a h₅ tk gs hgb hag hsz₅ hk₅ W5 hat
    have hpass : ∀ n, passing (fun _ => true) n 0 = List.range n := fun n => by unfold passing; simp
    rw [hpass] at W5
    have e5 : (List.range (pcVals ps).toArray.size).length = ps.length := by simp
    have e6 : (fun (j : Nat) (y : Value) => ∃ i, (List.range (pcVals ps).toArray.size)[j]? = some i ∧ ∃ (p : Pc) (u : Tok), ps[i]? = some p ∧ y = .str (ofL (p.a ++ p.b)) u) = (fun (j : Nat) (y : Value) => ∃ (p : Pc) (u : Tok), ps[j]? = some p ∧ y = Value.str (ofL (p.a ++ p.b)) u) := by
      funext j y
      apply propext
      constructor
      · rintro ⟨i, hi, p, u, hp, rfl⟩
        obtain ⟨hlt, rfl⟩ : ∃ _ : j < (pcVals ps).toArray.size, j = i := by
          rw [List.getElem?_eq_some_iff] at hi
          obtain ⟨h1, h2⟩ := hi
          exact ⟨by simpa using h1, by simpa using h2⟩
        exact ⟨p, u, hp, rfl⟩
      · rintro ⟨p, u, hp, rfl⟩
        have hj : j < ps.length := by
          rcases Nat.lt_or_ge j ps.length with h | h
          · exact h
          · rw [List.getElem?_eq_none h] at hp; cases hp
        exact ⟨j, by simp [hj], p, u, hp, rfl⟩
    rw [e5, e6] at W5
    refine hQ c' a _ hCc (F3.keeps hk₅) (G.push hgb) rfl ⟨_, _, _, _, W5, hat, (fun i s' st => st.1.typeIs), List.mem_cons_self, ?_, ?_⟩
    · intro b hb
      show b < h₅.objs.size
      rw [hsz₅]
      rcases List.mem_cons.mp hb with rfl | hb
      · exact Nat.lt_succ_self _
      · rcases List.mem_cons.mp hb with rfl | hb
        · exact Nat.lt_succ_of_lt hag
        · exact Nat.lt_succ_of_lt (Nat.lt_trans (List.mem_range.mp hb) hag)
    · intro b hb
      rcases List.mem_cons.mp hb with rfl | hb
      · exact Nat.lt_of_lt_of_le Llt (Nat.le_of_succ_le sz3)
      · rw [List.mem_singleton.mp hb]; exact Llt
end
end Mine
end
section
open PySem PySem.W PyProof.Rows PySem.Calls PySem.Spec
set_option maxRecDepth 100000
set_option maxHeartbeats 4000000
namespace Mine
def flatP (ps : List Pc) : List Nat := (ps.map fun p => p.a ++ p.b).flatten
theorem fn96 (P : Params) : ∃ oc od osl params dV kV doc pm an ct, (hd.heap_39 P).lookup 96 = some ⟨oc, od, .func (fnOf (Str.ofString "__str__") (Str.ofString "_Accumulator.__str__") params strB strS dV kV doc pm an (.ref 95) ct), osl⟩ ∧
    (∀ (s : Shared) (x : Addr), BindsTo s (fnOf (Str.ofString "__str__") (Str.ofString "_Accumulator.__str__") params strB strS dV kV doc pm an (.ref 95) ct) ⟨[.ref x], []⟩ [(Str.ofString "self", .ref x)]) :=
  ⟨_, _, _, _, _, _, _, _, _, _, rfl, fun _ _ => BindsTo.of_eq rfl⟩
theorem emptyStr (P : Params) : ∃ te, nsIn (hd.heap_39 P) mainGlobals (Str.ofString "EMPTYSTRING") = some (some (.str (Str.ofString "") te)) := ⟨_, rfl⟩
section
variable {prog : Program} {w : World} {A : Around} {s : Shared} {x P dx : Addr} {mg : Str → Option Value} {ox : Obj} {od : Option Obj} {n : Nat} {ps : List Pc} {bm : Addr} {ob : Obj} {te : Tok}
theorem str_core {hN : Value → Heap} {C : Value → Prop} {pv : Array Value} {R : Result → Shared → Prop} (X : (hd.heap_39 w.params).In s.heap) (M : BMod s.heap mainGlobals mg bm ob) (hE : mg (Str.ofString "EMPTYSTRING") = some (.str (Str.ofString "") te)) (G : AllBare s.gens) (hlim : s.heap.NoLimit)
    (hh : A.handled = none) (hroom : A.depth + 1 < recursionLimit) (I : ∀ h', (∀ b o, s.heap.get? b = some o → h'.get? b = some o) → InstAt h' x ox 122 od)
    (hx : s.heap.get? x = some ox) (hda : ox.data = .seq (pcVals ps).toArray n) (ht : ∀ p ∈ ps, s.heap.get? p.T = some p.obj) (hlen : ∀ p ∈ ps, p.a.length ≤ 100 ∧ p.b.length ≤ 100) (hsum : (flatP ps).length ≤ 1000) (hcnt : ps.length ≤ 1000)
    (hPo : s.heap.get? P = some { cls := .none, data := .fields pv }) (hPc : P ≠ cStatics)
    (hcode : ∀ (A : Around) (E : Value → Shared → Prop) (L : Addr) (m : Str → Option Value) (s₂ : Shared) (Q : Value → Shared → Prop), Fr s.heap L s₂.heap m → (∀ c' h₃ tk₃, C c' → (∀ b o, b ≠ P → s₂.heap.get? b = some o → h₃.get? b = some o) → s₂.heap.objs.size ≤ h₃.objs.size → Fr (hN c') L h₃ m → Q c' { s₂ with heap := h₃, toks := tk₃ }) → wpAny (model prog w) A (genexprCode (sEnv L) gPos ((sEnv L).qual ++ "<genexpr>") gSc) Q E s₂)
    (hQ : ∀ c' t s', C c' → (∀ b o, (hN c').get? b = some o → s'.heap.get? b = some o) → AllBare s'.gens → s'.os = s.os → R (.ok (.ret (.str (ofL (flatP ps)) t))) s') :
    codeAny (model prog w) A (.call (.ref 96) ⟨[.ref x], []⟩) R s := by
  obtain ⟨oc, odi, osl, params, dV, kV, doc, pm, an, ct, ho, hb⟩ := fn96 w.params
  refine codeAny_call_def (fd := fnOf (Str.ofString "__str__") (Str.ofString "_Accumulator.__str__") params strB strS dV kV doc pm an (.ref 95) ct) (body := strB) (binds := [(Str.ofString "self", .ref x)]) (Nat.lt_of_succ_lt hroom) (X _ _ ho) rfl hlim (codeRec_of X (by kernel_rfl)) rfl (hb s x) (by show ∀ x ∈ strS.names, _; decide) (by intro y hy; rw [List.mem_singleton.mp hy]; rfl) (fun h₁ hns hk₁ => ?_) rfl rfl rfl
  have F1 : Fr s.heap s.heap.objs.size h₁ (fun y => List.lookup y [(Str.ofString "self", Value.ref x)].reverse) := ⟨hns, hk₁, Nat.le_refl _⟩
  have e : strB = [.Return (some (.Call (.Attribute (.Name (Str.ofString "EMPTYSTRING") { line := 105, col := 15, endLine := 105, endCol := 26 }) (Str.ofString "join") { line := 105, col := 15, endLine := 105, endCol := 31 }) [strG] [] { line := 105, col := 15, endLine := 105, endCol := 86 })) { line := 105, col := 8, endLine := 105, endCol := 86 }] := rfl
  rw [e]
  refine wpAny_execs_cons (wpAny_Return_some ?_)
  refine MethodCall_ ?_
  refine Name_function_global rfl rfl (loadGlobal_global (M.ns.keeps hk₁) hE ?_) (by decide)
  refine GM.join ?_
  refine callWith_method1 ?_
  refine wpAny_items_cons ?_
  refine gen_core (K := hd.heap_39 w.params) (P := P) (hN := hN) (ps := ps) F1 M hE G (hlim.keeps hk₁) hh hroom rfl X (I _ hk₁) (by kernel_rfl) (by kernel_rfl) hx hda ht hlen hPo hPc (hcode _ _ _ _) ?_
  intro c' a s₅ hCc F5 G5 os5 X5
  refine wpAny_items_nil ?_
  have hl : (List.range ps.length).map (fun j => ofL (((ps[j]?.map fun p => p.a ++ p.b)).getD [])) = (ps.map fun p => p.a ++ p.b).map ofL := by
    apply List.ext_getElem?
    intro j
    rcases Nat.lt_or_ge j ps.length with h | h
    · simp [h]
    · simp [h]
  refine join_rows F5 G5 X5 (fun j => ofL (((ps[j]?.map fun p => p.a ++ p.b)).getD [])) ?_ ?_ ?_ ?_
  · rintro j v ⟨p, u, hp, rfl⟩
    exact ⟨u, by rw [hp]; rfl⟩
  · rw [hl]
    unfold JoinOk
    rw [long_flat _ hsum]; rfl
  · rw [hl, join_flat]
    intro s' t' F' G' os'
    dsimp only
    exact hQ c' t' s' hCc F'.keep G' (os'.trans os5)
  · rw [sizeLine_eq]; omega
theorem bmodT {p : Program} {loose : List Str} {mean : ExcName → Option Value} {mg mb : Str → Option Value} {h : Heap} (T : Top p loose mean mg mb h) : ∃ bm ob, BMod h mainGlobals mg bm ob :=
  let ⟨bm, ob, h1, h2, h3, h4, h5, h6⟩ := T.bmain; ⟨bm, ob, T.g, h1, h2, h3, h4, h5, h6⟩
theorem acc_inst {h₀ : Heap} {L : Addr} {news : CbLed} {vs : List Value} {t1 t2 : Tok} (N : News h₀ L s.heap news) (h1 : (x, accObj dx vs n) ∈ news) (h2 : (dx, accDict w t1 t2) ∈ news) :
    ∀ h', (∀ b o, s.heap.get? b = some o → h'.get? b = some o) → InstAt h' x (accObj dx vs n) 122 (some (accDict w t1 t2)) :=
  fun h' k => ⟨k _ _ (N _ h1).1, rfl, rfl, k _ _ (N _ h2).1⟩
variable {E : Value → Shared → Prop} {h₀ : Heap} {L : Addr} {m mb : Str → Option Value} {news : CbLed} {p : Program} {loose : List Str} {mean : ExcName → Option Value} {t1 t2 : Tok}
theorem str_hit {pv : Array Value} {c' : Value} {Q : Value → Shared → Prop} (F : Fr h₀ L s.heap m) (X : (hd.heap_39 w.params).In h₀) (N : News h₀ L s.heap news) (T : Top p loose mean mg mb h₀) (hC : h₀.IsCode 95 P pv) (hT : h₀.TableAt 95 P pv) (hf : codeAmong gPos pv.toList = some c') (hPc : P ≠ cStatics) (G : AllBare s.gens)
    (h1 : (x, accObj dx (pcVals ps) n) ∈ news) (h2 : (dx, accDict w t1 t2) ∈ news) (ht : ∀ p ∈ ps, (p.T, p.obj) ∈ news) (hlen : ∀ p ∈ ps, p.a.length ≤ 100 ∧ p.b.length ≤ 100) (hsum : (flatP ps).length ≤ 1000) (hcnt : ps.length ≤ 1000)
    (hu : A.in1.in1.units < cLine) (hh : A.in1.in1.handled = none) (hroom : A.in1.in1.depth + 1 < recursionLimit)
    (hq : ∀ t s', Fr h₀ L s'.heap m → News h₀ L s'.heap news → AllBare s'.gens → s'.os = s.os → Q (.str (ofL (flatP ps)) t) s') : wpAny (model prog w) A (call (.type "str") [.ref x]) Q E s := by
  obtain ⟨bm, ob, M⟩ := bmodT T
  obtain ⟨te, hte⟩ := emptyStr w.params
  have XS := X.keeps F.keep
  refine kso_call hu XS (acc_inst N h1 h2 _ fun _ _ e => e) (f := 96) (by kernel_rfl) (by kernel_rfl) (wpAny_call ?_)
  refine str_core (ps := ps) (P := P) (hN := fun _ => s.heap) (C := fun _ => True) XS (M.keeps F.keep) (mg_of X T.g hte) G (T.nolimit.keeps F.keep) hh hroom (acc_inst N h1 h2) (N _ h1).1 rfl (fun p hp => (N _ (ht p hp)).1) hlen hsum hcnt (F.keep _ _ hT.2) hPc ?_ ?_
  · intro A E L m s₂ Q F2 hk
    exact wpAny_genexprCode_hit (c := 95) (P := P) rfl ((hC.keeps F.keep).keeps F2.keep) hf (hk _ _ _ trivial (fun _ _ _ e => e) (Nat.le_refl _) F2)
  · intro c t s' _ hk G' os'
    exact hq t s' (F.keeps hk) (fun p hp => ⟨hk _ _ (N p hp).1, (N p hp).2⟩) G' os'
theorem str_new {pv : Array Value} {Q : Value → Shared → Prop} (F : Fr h₀ L s.heap m) (X : (hd.heap_39 w.params).In h₀) (N : News h₀ L s.heap news) (T : Top p loose mean mg mb h₀) (hC : h₀.IsCode 95 P pv) (hT : h₀.TableAt 95 P pv) (hf : codeAmong gPos pv.toList = none) (hPc : P ≠ cStatics) (G : AllBare s.gens)
    (h1 : (x, accObj dx (pcVals ps) n) ∈ news) (h2 : (dx, accDict w t1 t2) ∈ news) (ht : ∀ p ∈ ps, (p.T, p.obj) ∈ news) (hlen : ∀ p ∈ ps, p.a.length ≤ 100 ∧ p.b.length ≤ 100) (hsum : (flatP ps).length ≤ 1000) (hcnt : ps.length ≤ 1000)
    (hu : A.in1.in1.units < cLine) (hh : A.in1.in1.handled = none) (hroom : A.in1.in1.depth + 1 < recursionLimit)
    (hq : ∀ c' t s' hR, hR = regrown h₀ P (pv ++ #[rawInt gPos.line, rawInt gPos.col, .ref c']) → Based h₀ hR 95 P (pv ++ #[rawInt gPos.line, rawInt gPos.col, .ref c']) → Fr hR L s'.heap m → News hR L s'.heap news → AllBare s'.gens → s'.os = s.os → Q (.str (ofL (flatP ps)) t) s') : wpAny (model prog w) A (call (.type "str") [.ref x]) Q E s := by
  obtain ⟨bm, ob, M⟩ := bmodT T
  obtain ⟨te, hte⟩ := emptyStr w.params
  have XS := X.keeps F.keep
  have B0 : Based h₀ h₀ 95 P pv := Based.start hC hT hPc
  have B1 : Based s.heap s.heap 95 P pv := Based.start (hC.keeps F.keep) (hT.keeps F.keep) hPc
  refine kso_call hu XS (acc_inst N h1 h2 _ fun _ _ e => e) (f := 96) (by kernel_rfl) (by kernel_rfl) (wpAny_call ?_)
  refine str_core (ps := ps) (P := P) (hN := fun c => regrown s.heap P (pv ++ #[rawInt gPos.line, rawInt gPos.col, c])) (C := fun c => ∃ a, c = .ref a ∧ Based s.heap (regrown s.heap P (pv ++ #[rawInt gPos.line, rawInt gPos.col, c])) 95 P (pv ++ #[rawInt gPos.line, rawInt gPos.col, c])) XS (M.keeps F.keep) (mg_of X T.g hte) G (T.nolimit.keeps F.keep) hh hroom (acc_inst N h1 h2) (N _ h1).1 rfl (fun p hp => (N _ (ht p hp)).1) hlen hsum hcnt (F.keep _ _ hT.2) hPc ?_ ?_
  · intro A E L m s₂ Q F2 hk
    refine wpAny_genexprCodeX (c := 95) (P := P) rfl (B1.codeAt F2) (B1.tabAt F2) hf fun c' h₃ tk₃ hx₃ hge hlt hcode₃ _ htab₃ _ => ?_
    obtain ⟨B3, F3⟩ := B1.grow F2 hx₃ hcode₃ htab₃
    exact hk _ _ _ ⟨c', rfl, B3⟩ (fun b o hb e => hx₃ b o hb e) (Nat.le_trans hge (Nat.le_of_lt hlt)) F3
  · rintro c t s' ⟨a, rfl, B3⟩ hk G' os'
    have hx' : Heap.ExtBut P s.heap s'.heap := fun b o hb e => hk b o (regrown_other s.heap P _ b o hb e)
    obtain ⟨B4, F4⟩ := B0.grow F hx' (B3.code.keeps hk) (B3.tab.keeps hk)
    refine hq a t s' _ rfl B4 F4 (fun p hp => ⟨hx' _ _ (fun e => ?_) (N p hp).1, (N p hp).2.1, B4.fresh (N p hp).2.2⟩) G' os'
    have z := (N p hp).2.2
    rw [e, hT.2] at z; cases z
end
end Mine
end
section
open PySem PySem.W PyProof.Rows PySem.Calls PySem.Spec
set_option maxRecDepth 100000
set_option maxHeartbeats 4000000
namespace Mine
theorem ofL_one (c : Nat) : (⟨#[c]⟩ : Str) = ofL [c] := rfl
theorem signs_paired (d : Nat → List Nat) : ∀ (l : List Nat) (vs : List Value) (ys : List Value), vs.length = l.length → (∀ (j : Nat) (v : Value), vs[j]? = some v → ∃ c u, l[j]? = some c ∧ v = .str (ofL [c]) u) →
    Paired (fun v r => ∃ c, (∃ u, v = Value.str (ofL [c]) u) ∧ ∃ u, r = Value.str (ofL (d c)) u) vs ys → ∃ q : List (List Nat × Tok), ys = valsL q ∧ q.map (·.1) = l.map d
  | [], [], _, _, _, .nil => ⟨[], rfl, rfl⟩
  | c :: l, v :: vs, _, hl, hP, .cons (l₂ := ys) hF hr => by
    obtain ⟨q, rfl, hq⟩ := signs_paired d l vs ys (by simpa using hl) (fun j v hv => hP (j + 1) v hv) hr
    obtain ⟨c1, u1, h1, rfl⟩ := hP 0 v rfl
    obtain ⟨c2, ⟨u2, h2⟩, u3, rfl⟩ := hF
    have e1 : c = c1 := Option.some.inj h1
    have e2 : c1 = c2 := by
      have := ofL_inj (Value.str.inj h2).1
      simpa using this
    subst e1 e2
    exact ⟨(d c, u3) :: q, rfl, by rw [List.map_cons, List.map_cons, hq]⟩
  | [], _ :: _, _, hl, _, _ => by cases hl
  | _ :: _, [], _, hl, _, _ => by cases hl
section
variable {prog : Program} {w : World} {A : Around} {E : Value → Shared → Prop} {s₁ : Shared} {h₀ : Heap} {L : Addr} {m : Str → Option Value} {news : CbLed}
theorem comp_signs {env : Env} {elt : PySem.Expr} {x : Str} {scope : Scope} {Q : Value → Shared → Prop} {l : List Nat} {t : Tok} (d : Nat → List Nat) (hh : A.handled = none) (F : Fr h₀ L s₁.heap m) (N : News h₀ L s₁.heap news) (hsz : l.length ≤ 1000)
    (g2 : ∀ C c u (s₂ : Shared) m₂ E', s₂.heap.Ns (compEnv scope C env).locals m₂ → m₂ x = some (.str (ofL [c]) u) → wpAny (model prog w) A (eval elt (compEnv scope C env)) (fun r s₃ => (∃ u, r = .str (ofL (d c)) u) ∧ Keeps s₂ s₃) E' s₂)
    (g3 : ∀ D (q : List (List Nat × Tok)) n h' tk, q.map (·.1) = l.map d → Fr h₀ L h' m → News h₀ L h' ((D, listOf (valsL q).toArray n) :: news) → (∀ p ∈ news, p.1 ≠ D) → Q (.ref D) { s₁ with heap := h', toks := tk }) :
    wpAny (model prog w) A (pyIter (.str (ofL l) t)) (CompPost prog w A env scope x [] elt Q) E s₁ := by
  unfold CompPost
  refine wpAny_pyIter_str fun o St W hst => ?_
  have up : ∀ (h' : Heap), (∀ b o', b ∉ [s₁.heap.objs.size] → (s₁.heap.push o).get? b = some o' → h'.get? b = some o') → ∀ b o', s₁.heap.get? b = some o' → h'.get? b = some o' :=
    fun h' hk b o' e => hk b o' (fun hm => Nat.lt_irrefl _ (List.mem_singleton.mp hm ▸ Heap.lt_size e)) (Heap.get?_push_of_some _ e)
  have hcps : (ofL l).cps = l.toArray := rfl
  refine ⟨fun _ => true, fun v r => ∃ c, (∃ u, v = .str (ofL [c]) u) ∧ ∃ u, r = .str (ofL (d c)) u, s₁.heap.objs.size, [s₁.heap.objs.size], [s₁.heap.objs.size], (ofL l).cps.size, SignAt (ofL l), St, rfl, W A hh, ?_, hst, ?_, ⟨?_, ?_⟩, ?_⟩
  · rw [hcps, List.size_toArray, sizeLine_eq]; omega
  · intro b hb
    show b < (s₁.heap.push o).objs.size
    rw [Heap.size_push, List.mem_singleton.mp hb]
    exact Nat.lt_succ_self _
  · intro C i v s₃ m₃ E' hP hn hm _ htk
    exact wpAny_pure ⟨rfl, _, _, rfl, fun _ _ e => e⟩
  · intro C i v s₃ m₃ E' hP hp hn hm _ htk
    obtain ⟨c, u, _, rfl⟩ := hP
    exact wpAny_mono (g2 C c u s₃ m₃ E' hn hm) (fun r s₄ h₄ => ⟨⟨c, ⟨u, rfl⟩, h₄.1⟩, h₄.2⟩) fun _ _ e => e
  · intro D h' tk ys vs hnew hlD hplD hlen hP hF hk
    have e1 : vs.filter (fun _ => true) = vs := by simp
    rw [e1] at hF
    obtain ⟨q, e, hq⟩ := signs_paired d l vs ys.toList (by rw [hlen, hcps, List.size_toArray]) (fun j v hv => by
      obtain ⟨c, u, hc, e⟩ := hP j v hv
      exact ⟨c, u, by rw [hcps] at hc; simpa using hc, e⟩) hF
    have e2 : ys = (valsL q).toArray := by rw [← e]
    subst e2
    obtain ⟨n, hD⟩ := hplD
    have hn0 : s₁.heap.get? D = none := by
      cases e : s₁.heap.get? D with
      | none => rfl
      | some o' => rw [Heap.get?_push_of_some _ e] at hnew; cases hnew
    refine g3 D q n h' tk hq (F.keeps (up h' hk)) (fun p hp => ?_) (fun p hp e => by have z := (N p hp).1; rw [e, hn0] at z; cases z)
    rcases List.mem_cons.mp hp with rfl | hp
    · refine ⟨hD, fun e => ?_, ?_⟩
      · obtain ⟨oL, _, _, hL, _⟩ := F.ns
        have e' : D = L := e
        rw [e', hL] at hn0; cases hn0
      · cases e : h₀.get? D with
        | none => rfl
        | some o' => rw [F.keep _ _ e] at hn0; cases hn0
    · exact ⟨up h' hk _ _ (N p hp).1, (N p hp).2⟩
theorem join_at {D : Addr} {q : List (List Nat × Tok)} {n : Nat} {t : Tok} {Q : Value → Shared → Prop} (N : News h₀ L s₁.heap news) (hm : (D, listOf (valsL q).toArray n) ∈ news) (hz : ((q.map (·.1)).flatten).length ≤ 1000)
    (h : ∀ t' k, Q (.str (ofL (q.map (·.1)).flatten) t') { s₁ with toks := k }) : wpAny (model prog w) A (call (.builtin "str.join") [.str (Str.ofString "") t, .ref D]) Q E s₁ := by
  have hl : s₁.heap.IsList D (valsL q).toArray := PySem.IsL.isList (n := n) (N _ hm).1
  have e : valsL q = strValues (q.map fun p => (ofL p.1, p.2)) := by
    unfold valsL strValues
    rw [List.map_map]; rfl
  have e2 : (q.map fun p => (ofL p.1, p.2)).map (·.1) = (q.map (·.1)).map ofL := by rw [List.map_map, List.map_map]; rfl
  rw [e] at hl
  refine call_meets F.slot_str_join (typeIs_str _ _ _) F.entry_str_join (F.args_str_join_2 _ _) (meets_str_join_list _ _ _ (q.map fun p => (ofL p.1, p.2)) (by rw [e2]; exact long_flat _ hz)) ⟨hl, ?_⟩
  refine post_join _ ⟨?_, fun t' k => ?_⟩
  · rw [e2, join_flat, ofL_len, sizeLine_eq]; omega
  · rw [e2, join_flat]; exact h t' k
end
def apW (l : List Nat) : List (List Nat) := [] :: (l.map (fun c => [c]) ++ [[]])
theorem apW_tail : ∀ l : List Nat, joinD (l.map (fun c => [c]) ++ [[]]) = (l.map (· :: dots)).flatten
  | [] => rfl
  | c :: l => by
    have ih := apW_tail l
    cases hl : l.map (fun c => [c]) ++ [[]] with
    | nil => simp at hl
    | cons a r =>
      rw [hl] at ih
      rw [List.map_cons, List.cons_append, hl, List.map_cons, List.flatten_cons, ← ih]
      rfl
theorem apW_join (l : List Nat) : joinD (apW l) = dots ++ (l.map (· :: dots)).flatten := by
  rw [← apW_tail]
  unfold apW
  cases hl : l.map (fun c => [c]) ++ [[]] with
  | nil => simp at hl
  | cons a r => rfl
theorem flat_len (l : List Nat) : ((l.map (· :: dots)).flatten).length = 4 * l.length := by
  induction l with
  | nil => rfl
  | cons c l ih => rw [List.map_cons, List.flatten_cons, List.length_append, ih]; simp [dots]; omega
/-- what _law_apart tells -/
def apL (x y : List Nat) (n : Int) : Int :=
  if ellL (apW (les x y)) (gre x y) != (levL x y n == 2 * (((gre x y).length : Int) - ((les x y).length : Int))) then -1 else levL x y n
end Mine
end
section
open PySem PySem.W PyProof.Rows PySem.Calls PySem.Spec
namespace Mine
namespace apart_ct_e
def St9 (w : World) (p : Program) (loose : List Str) (mean : ExcName → Option Value) (mg : Str → Option Value) (mb : Str → Option Value) (news : CbLed) (x : List Nat) (y : List Nat) (t : CbTok) (t' : CbTok) (n : Int) (tn : CbTok) (dp : Nat) (un : Nat) (gd : Option (List Code)) (cn : Str) (cs : Scope) (a0 : Addr) (ccd : Value) (cl : List (Str × Addr)) (outr : List Env) (A₀ : Around) (base : Heap) (h₀ : Heap) (L : Addr) (m : Str → Option Value) (s : Shared) (Q : Value → Shared → Prop) (E : Value → Shared → Prop) : Prop :=
  (x.length ≤ 40) → (y.length ≤ 40) → (0 ≤ n) → (n ≤ 1000) → (46 ∉ x) → (46 ∉ y) → CtB w p loose mean mg mb 14 136 news [.str (ofL x) t, .str (ofL y) t', .int n tn] (fun t => .int (apL x y n) t) dp un gd cn cs a0 ccd cl outr A₀ base h₀ L m s Q E
abbrev Vt9 : Type := World × Program × (List Str) × (ExcName → Option Value) × (Str → Option Value) × (Str → Option Value) × CbLed × (List Nat) × (List Nat) × CbTok × CbTok × Int × CbTok × Nat × Nat × (Option (List Code)) × Str × Scope × Addr × Value × (List (Str × Addr)) × (List Env) × Around × Heap × Heap × Addr × (Str → Option Value) × Shared × (Value → Shared → Prop) × (Value → Shared → Prop)
theorem ne9 : Nonempty Vt9 := by
  obtain ⟨w0⟩ := neW
  exact ⟨w0, default, [], (fun _ => none), (fun _ => none), (fun _ => none), [], [], [], 0, 0, 0, 0, 0, 0, none, default, default, 0, .none, [], [], callerA, {}, {}, 0, (fun _ => none), {}, (fun _ _ => True), (fun _ _ => True)⟩
def Sp9 (t : Vt9) : Prop := St9 (t.1) (t.2.1) (t.2.2.1) (t.2.2.2.1) (t.2.2.2.2.1) (t.2.2.2.2.2.1) (t.2.2.2.2.2.2.1) (t.2.2.2.2.2.2.2.1) (t.2.2.2.2.2.2.2.2.1) (t.2.2.2.2.2.2.2.2.2.1) (t.2.2.2.2.2.2.2.2.2.2.1) (t.2.2.2.2.2.2.2.2.2.2.2.1) (t.2.2.2.2.2.2.2.2.2.2.2.2.1) (t.2.2.2.2.2.2.2.2.2.2.2.2.2.1) (t.2.2.2.2.2.2.2.2.2.2.2.2.2.2.1) (t.2.2.2.2.2.2.2.2.2.2.2.2.2.2.2.1) (t.2.2.2.2.2.2.2.2.2.2.2.2.2.2.2.2.1) (t.2.2.2.2.2.2.2.2.2.2.2.2.2.2.2.2.2.1) (t.2.2.2.2.2.2.2.2.2.2.2.2.2.2.2.2.2.2.1) (t.2.2.2.2.2.2.2.2.2.2.2.2.2.2.2.2.2.2.2.1) (t.2.2.2.2.2.2.2.2.2.2.2.2.2.2.2.2.2.2.2.2.1) (t.2.2.2.2.2.2.2.2.2.2.2.2.2.2.2.2.2.2.2.2.2.1) (t.2.2.2.2.2.2.2.2.2.2.2.2.2.2.2.2.2.2.2.2.2.2.1) (t.2.2.2.2.2.2.2.2.2.2.2.2.2.2.2.2.2.2.2.2.2.2.2.1) (t.2.2.2.2.2.2.2.2.2.2.2.2.2.2.2.2.2.2.2.2.2.2.2.2.1) (t.2.2.2.2.2.2.2.2.2.2.2.2.2.2.2.2.2.2.2.2.2.2.2.2.2.1) (t.2.2.2.2.2.2.2.2.2.2.2.2.2.2.2.2.2.2.2.2.2.2.2.2.2.2.1) (t.2.2.2.2.2.2.2.2.2.2.2.2.2.2.2.2.2.2.2.2.2.2.2.2.2.2.2.1) (t.2.2.2.2.2.2.2.2.2.2.2.2.2.2.2.2.2.2.2.2.2.2.2.2.2.2.2.2.1) (t.2.2.2.2.2.2.2.2.2.2.2.2.2.2.2.2.2.2.2.2.2.2.2.2.2.2.2.2.2)
noncomputable def c9 : Vt9 := @Classical.epsilon Vt9 ne9 fun t => ¬ Sp9 t
@[irreducible] noncomputable def w : World := c9.1
@[irreducible] noncomputable def p : Program := c9.2.1
@[irreducible] noncomputable def loose : List Str := c9.2.2.1
@[irreducible] noncomputable def mean : ExcName → Option Value := c9.2.2.2.1
@[irreducible] noncomputable def mg : Str → Option Value := c9.2.2.2.2.1
@[irreducible] noncomputable def mb : Str → Option Value := c9.2.2.2.2.2.1
@[irreducible] noncomputable def news : CbLed := c9.2.2.2.2.2.2.1
@[irreducible] noncomputable def x : List Nat := c9.2.2.2.2.2.2.2.1
@[irreducible] noncomputable def y : List Nat := c9.2.2.2.2.2.2.2.2.1
@[irreducible] noncomputable def t : CbTok := c9.2.2.2.2.2.2.2.2.2.1
@[irreducible] noncomputable def t' : CbTok := c9.2.2.2.2.2.2.2.2.2.2.1
@[irreducible] noncomputable def n : Int := c9.2.2.2.2.2.2.2.2.2.2.2.1
@[irreducible] noncomputable def tn : CbTok := c9.2.2.2.2.2.2.2.2.2.2.2.2.1
@[irreducible] noncomputable def dp : Nat := c9.2.2.2.2.2.2.2.2.2.2.2.2.2.1
@[irreducible] noncomputable def un : Nat := c9.2.2.2.2.2.2.2.2.2.2.2.2.2.2.1
@[irreducible] noncomputable def gd : Option (List Code) := c9.2.2.2.2.2.2.2.2.2.2.2.2.2.2.2.1
@[irreducible] noncomputable def cn : Str := c9.2.2.2.2.2.2.2.2.2.2.2.2.2.2.2.2.1
@[irreducible] noncomputable def cs : Scope := c9.2.2.2.2.2.2.2.2.2.2.2.2.2.2.2.2.2.1
@[irreducible] noncomputable def a0 : Addr := c9.2.2.2.2.2.2.2.2.2.2.2.2.2.2.2.2.2.2.1
@[irreducible] noncomputable def ccd : Value := c9.2.2.2.2.2.2.2.2.2.2.2.2.2.2.2.2.2.2.2.1
@[irreducible] noncomputable def cl : List (Str × Addr) := c9.2.2.2.2.2.2.2.2.2.2.2.2.2.2.2.2.2.2.2.2.1
@[irreducible] noncomputable def outr : List Env := c9.2.2.2.2.2.2.2.2.2.2.2.2.2.2.2.2.2.2.2.2.2.1
@[irreducible] noncomputable def A₀ : Around := c9.2.2.2.2.2.2.2.2.2.2.2.2.2.2.2.2.2.2.2.2.2.2.1
@[irreducible] noncomputable def base : Heap := c9.2.2.2.2.2.2.2.2.2.2.2.2.2.2.2.2.2.2.2.2.2.2.2.1
@[irreducible] noncomputable def h₀ : Heap := c9.2.2.2.2.2.2.2.2.2.2.2.2.2.2.2.2.2.2.2.2.2.2.2.2.1
@[irreducible] noncomputable def L : Addr := c9.2.2.2.2.2.2.2.2.2.2.2.2.2.2.2.2.2.2.2.2.2.2.2.2.2.1
@[irreducible] noncomputable def m : Str → Option Value := c9.2.2.2.2.2.2.2.2.2.2.2.2.2.2.2.2.2.2.2.2.2.2.2.2.2.2.1
@[irreducible] noncomputable def s : Shared := c9.2.2.2.2.2.2.2.2.2.2.2.2.2.2.2.2.2.2.2.2.2.2.2.2.2.2.2.1
@[irreducible] noncomputable def Q : Value → Shared → Prop := c9.2.2.2.2.2.2.2.2.2.2.2.2.2.2.2.2.2.2.2.2.2.2.2.2.2.2.2.2.1
@[irreducible] noncomputable def E : Value → Shared → Prop := c9.2.2.2.2.2.2.2.2.2.2.2.2.2.2.2.2.2.2.2.2.2.2.2.2.2.2.2.2.2
set_option maxRecDepth 100000 in
set_option maxHeartbeats 8000000 in
theorem core9 : St9 w p loose mean mg mb news x y t t' n tn dp un gd cn cs a0 ccd cl outr A₀ base h₀ L m s Q E := by
  unfold St9 CtB Ret P0
  k_fill
  intro hx hy h0 hn dx dy hB hF hX hN hT hcs hdp hun hret
  have e1 : Str.length (ofL x) = x.length := ofL_len x
  have e2 : Str.length (ofL y) = y.length := ofL_len y
  refine wpAny_call ?_
  k_dflt cell_enter
  rename Fr _ _ _ _ => F0
  have F1 : Fr _ _ _ (kstB (fun _ => none) [(Str.ofString "bound", Value.int n tn), (Str.ofString "other", Value.str (ofL y) t'), (Str.ofString "one", Value.str (ofL x) t)]) := fr_open F0
  clear F0
  repeat' (first | (k_unfold; (try dsimp only)) | ((fail_if_success (with_reducible show wpAny _ _ (exec (Stmt.While _ _ _ _) _) _ _ _)); (fail_if_success (with_reducible show wpAny _ _ (exec (Stmt.For _ _ _ _ _) _) _ _ _)); (fail_if_success (with_reducible show wpAny _ _ (pyIter _) _ _ _)); (fail_if_success (with_reducible show wpAny _ _ (execs (List.cons (Stmt.If _ _ _ (Pos.mk 133 _ _ _)) _) _) _ _ _)); first | walk1 | (dsimp only; walk1)) | (leave1; (try dsimp only)))
  walk1
  rename Fr _ _ _ _ => F1
  rename News _ _ _ _ => N1
  refine cut_se F1 N1 (fun m' => ∃ c : Tok × Tok, ∀ p ∈ [(Str.ofString "lesser", Value.str (ofL (les x y)) c.1), (Str.ofString "greater", Value.str (ofL (gre x y)) c.2), (Str.ofString "bound", Value.int n tn), (Str.ofString "other", Value.str (ofL y) t'), (Str.ofString "one", Value.str (ofL x) t)], m' p.1 = some p.2) ?sa ?ra
  case sa =>
    repeat' (first | (k_unfold; (try dsimp only)) | ((fail_if_success (with_reducible show wpAny _ _ (exec (Stmt.While _ _ _ _) _) _ _ _)); (fail_if_success (with_reducible show wpAny _ _ (exec (Stmt.For _ _ _ _ _) _) _ _ _)); (fail_if_success (with_reducible show wpAny _ _ (pyIter _) _ _ _)); first | walk1 | (dsimp only; walk1)) | (leave1; (try dsimp only)))
    · rename Fr _ _ _ _ => F3
      rename News _ _ _ _ => N3
      have hlt : y.length < x.length := by omega
      simp only [les, gre, if_pos hlt]
      exact se_intro F3 N3 ⟨(_, _), by walk_at "K"⟩
    · rename Fr _ _ _ _ => F3
      rename News _ _ _ _ => N3
      have hlt : ¬ y.length < x.length := by omega
      simp only [les, gre, if_neg hlt]
      exact se_intro F3 N3 ⟨(_, _), by walk_at "K"⟩
  case ra =>
    intro h3 tk3 u3 F3 N3 ⟨⟨tl, tg⟩, hC⟩
    have F4 := fr_norm _ F3 hC
    clear F3 hC F1 N1
    have ll : (les x y).length ≤ 40 := by unfold les; split <;> omega
    have lg : (gre x y).length ≤ 40 := by unfold gre; split <;> omega
    have dl : 46 ∉ les x y := by unfold les; split <;> assumption
    have e3 : Str.length (ofL (les x y)) = (les x y).length := ofL_len _
    have e4 : Str.length (ofL (gre x y)) = (gre x y).length := ofL_len _
    generalize hlx : les x y = lx at *
    generalize hgx : gre x y = gx at *
    dsimp only
    repeat' (first | (k_unfold; (try dsimp only)) | ((fail_if_success (with_reducible show wpAny _ _ (exec (Stmt.While _ _ _ _) _) _ _ _)); (fail_if_success (with_reducible show wpAny _ _ (exec (Stmt.For _ _ _ _ _) _) _ _ _)); (fail_if_success (with_reducible show wpAny _ _ (pyIter _) _ _ _)); first | walk1 | (dsimp only; walk1)) | (leave1; (try dsimp only)))
    rename Fr _ _ _ _ => F5
    rename News _ _ _ _ => N5
    rename Below _ _ _ _ => Bb
    rename Frag.In _ _ => Xb
    rename Top _ _ _ _ _ _ => Tb
    refine lev_ct w p loose mean mg mb news x y _ _ n _ hx hy h0 hn (dp + 1) (un + 3) gd _ _ _ _ _ _ _ _ _ _ _ _ _ _ Bb F5 Xb N5 Tb rfl (by omega) (by omega) ?_
    intro tS hS tkS FS NS
    clear F5 N5
    dsimp only
    repeat' (first | (k_unfold; (try dsimp only)) | ((fail_if_success (with_reducible show wpAny _ _ (exec (Stmt.While _ _ _ _) _) _ _ _)); (fail_if_success (with_reducible show wpAny _ _ (exec (Stmt.For _ _ _ _ _) _) _ _ _)); (fail_if_success (with_reducible show wpAny _ _ (pyIter _) _ _ _)); first | walk1 | (dsimp only; walk1)) | (leave1; (try dsimp only)))
    dsimp only
    rename Fr _ _ _ _ => F5
    rename News _ _ _ _ => N5
    refine comp_signs (d := fun c => c :: dots) (by with_unfolding_all rfl) F5 N5 (by omega) ?g2 ?g3
    case g2 =>
      intro C c u s₂ m₂ E' hns hm
      clear F5 N5
      repeat' (first | (k_unfold; (try dsimp only)) | ((fail_if_success (with_reducible show wpAny _ _ (exec (Stmt.While _ _ _ _) _) _ _ _)); (fail_if_success (with_reducible show wpAny _ _ (exec (Stmt.For _ _ _ _ _) _) _ _ _)); (fail_if_success (with_reducible show wpAny _ _ (pyIter _) _ _ _)); first | walk1 | (dsimp only; walk1)) | (leave1; (try dsimp only)))
      all_goals first | exact ⟨_, _, rfl, fun _ _ e => e⟩ | exact ⟨_, congrArg (fun z => Value.str z _) (ofL_app [c] dots)⟩
    case g3 =>
      intro D q nq h5 tk5 hq F6 N6 off
      dsimp only
      repeat' (first | (k_unfold; (try dsimp only)) | ((fail_if_success (with_reducible show wpAny _ _ (exec (Stmt.While _ _ _ _) _) _ _ _)); (fail_if_success (with_reducible show wpAny _ _ (exec (Stmt.For _ _ _ _ _) _) _ _ _)); (fail_if_success (with_reducible show wpAny _ _ (pyIter _) _ _ _)); first | walk1 | (dsimp only; walk1)) | (leave1; (try dsimp only)))
      rename Fr _ _ _ _ => F6
      rename News _ _ _ _ => N6
      refine join_at N6 (.head _) (by rw [hq, flat_len]; omega) ?_
      intro tj kj
      rw [hq]
      dsimp only
      refine add_str (fun t' tk' => ?_) (by rw [ofL_len, flat_len]; show 3 + _ ≤ _; rw [sizeLine_eq]; omega)
      rw [show Str.ofString "..." = ofL dots from rfl, ofL_app, ← apW_join]
      dsimp only
      repeat' (first | (k_unfold; (try dsimp only)) | ((fail_if_success (with_reducible show wpAny _ _ (exec (Stmt.While _ _ _ _) _) _ _ _)); (fail_if_success (with_reducible show wpAny _ _ (exec (Stmt.For _ _ _ _ _) _) _ _ _)); (fail_if_success (with_reducible show wpAny _ _ (pyIter _) _ _ _)); first | walk1 | (dsimp only; walk1)) | (leave1; (try dsimp only)))
      rename Fr _ _ _ _ => F7
      rename News _ _ _ _ => N7
      rename Below _ _ _ _ => Bb
      rename Frag.In _ _ => Xb
      rename Top _ _ _ _ _ _ => Tb
      refine ell_ct w p loose mean mg mb _ (apW lx) gx _ _ (by simp [apW]) (by simp [apW]; omega) ?kp ?kq (by rw [apW_join, List.length_append, flat_len]; simp [dots]; omega) (by omega) (dp + 1) (un + 3) gd _ _ _ _ _ _ _ _ _ _ _ _ _ _ Bb F7 Xb N7 Tb rfl (by omega) (by omega) ?_
      case kp =>
        intro q hq
        simp only [apW, List.mem_cons, List.mem_append, List.mem_map, List.not_mem_nil, or_false] at hq
        rcases hq with rfl | ⟨c, hc, rfl⟩ | rfl
        · simp
        · simp only [List.mem_singleton]; intro e; exact dl (e ▸ hc)
        · simp
      case kq =>
        intro q hq
        simp only [apW, List.mem_cons, List.mem_append, List.mem_map, List.not_mem_nil, or_false] at hq
        rcases hq with rfl | ⟨c, hc, rfl⟩ | rfl <;> simp
      intro tE hE tkE FE NE
      clear F7 N7
      dsimp only
      repeat' (first | (k_unfold; (try dsimp only)) | ((fail_if_success (with_reducible show wpAny _ _ (exec (Stmt.While _ _ _ _) _) _ _ _)); (fail_if_success (with_reducible show wpAny _ _ (exec (Stmt.For _ _ _ _ _) _) _ _ _)); (fail_if_success (with_reducible show wpAny _ _ (pyIter _) _ _ _)); first | walk1 | (dsimp only; walk1)) | (leave1; (try dsimp only)))
      · rename (_ != _) = true => hne
        rw [e3, e4] at hne
        exact cb_retI (x := apL x y n) hret (by unfold apL; rw [hlx, hgx, if_pos hne]) ‹Fr h₀ L _ m› (kst_newsOf ‹News h₀ L _ _› fun q hq => .tail _ hq)
      · rename (_ != _) = false => hne
        rw [e3, e4] at hne
        exact cb_retI (x := apL x y n) hret (by unfold apL; rw [hlx, hgx, hne]; rfl) ‹Fr h₀ L _ m› (kst_newsOf ‹News h₀ L _ _› fun q hq => .tail _ hq)
set_option maxHeartbeats 4000000 in
theorem all9 (q9 : Vt9) : Sp9 q9 := by
  refine @eps_all Vt9 ne9 Sp9 ?_ q9
  have h := core9
  unfold w p loose mean mg mb news x y t t' n tn dp un gd cn cs a0 ccd cl outr A₀ base h₀ L m s Q E at h
  exact h
end apart_ct_e
set_option maxHeartbeats 4000000 in
theorem apart_ct (w : World) (p : Program) (loose : List Str) (mean : ExcName → Option Value) (mg mb : Str → Option Value) (news : CbLed) (x y : List Nat) (t : CbTok) (t' : CbTok) (n : Int) (tn : CbTok) (hx : x.length ≤ 40) (hy : y.length ≤ 40) (h0 : 0 ≤ n) (hn : n ≤ 1000) (dx : 46 ∉ x) (dy : 46 ∉ y) : Ct w p loose mean mg mb 14 136 news [.str (ofL x) t, .str (ofL y) t', .int n tn] (fun t => .int (apL x y n) t) := by
  intro dp un gd cn cs a0 ccd cl outr A₀ base h₀ L m s Q E
  have h := apart_ct_e.all9 (w, p, loose, mean, mg, mb, news, x, y, t, t', n, tn, dp, un, gd, cn, cs, a0, ccd, cl, outr, A₀, base, h₀, L, m, s, Q, E)
  dsimp only [apart_ct_e.Sp9, apart_ct_e.St9] at h
  exact h hx hy h0 hn dx dy
end Mine
end
section
open PySem PySem.W PyProof.Rows PySem.Calls PySem.Spec
set_option maxRecDepth 100000
set_option maxHeartbeats 4000000
namespace Mine
section
variable {prog : Program} {w : World} {A : Around} {h₀ : Heap} {L : Addr} {m : Str → Option Value} {env : Env} {elt : PySem.Expr} {x : Str} {scope : Scope} {cl : List (Str × Addr)} {s : Shared} {S : List (Addr × Obj) → Prop} {P : Nat → Value → Prop} {Fin : List Value → List (Addr × Obj) → Prop}
/-- the turns of a list comprehension by an invariant of its index, its values and the ledger -/
theorem comp_ind (Inv : Nat → List Value → CbLed → Prop) (n : Nat) {news : CbLed}
    (step : ∀ (i : Nat) (ys : List Value) (news : CbLed), i < n → Inv i ys news → ∀ v I oI C oC D m₂ h tk (E' : Value → Shared → Prop), P i v → LCg.NsObj oC m₂ → m₂ x = some v → Fr h₀ L h m → News h₀ L h ((I, oI) :: (C, oC) :: (D, LCg.lst ys) :: news) → LCg.Off3 I C D news → ((@Ne Nat I C) ∧ (@Ne Nat I D) ∧ (@Ne Nat C D)) →
      wpAny (model prog w) A (eval elt (compEnvC scope cl C env)) (LCg.CompEnd h₀ L m { s with heap := h, toks := tk } I oI C oC D (LCg.lst ys) S (fun y news' => Inv (i + 1) (ys ++ [y]) news')) E' { s with heap := h, toks := tk })
    (fin : ∀ ys news, Inv n ys news → Fin ys news) (h0 : Inv 0 [] news) : LCg.CompRest prog w A h₀ L m env elt x scope cl s S P Fin n 0 [] news := by
  have main : ∀ k i ys news, i + k = n → Inv i ys news → LCg.CompRest prog w A h₀ L m env elt x scope cl s S P Fin k i ys news := by
    intro k
    induction k with
    | zero =>
      intro i ys news e hI
      have e : i = n := e
      subst e
      exact LCg.CompRest.zero (fin _ _ hI)
    | succ k ih =>
      intro i ys news e hI
      refine LCg.CompRest.succ ?_
      intro v I oI C oC D m₂ h tk E' a1 a2 a3 a4 a5 a6 a7
      refine wpAny_mono (step i ys news (by omega) hI v I oI C oC D m₂ h tk E' a1 a2 a3 a4 a5 a6 a7) (fun y s₂ hc => ?_) fun _ _ z => z
      obtain ⟨h', tk', news', b1, b2, b3, b4, b5, b6⟩ := hc
      exact ⟨h', tk', news', b1, b2, b3, b4, b5, ih (i + 1) _ _ (by omega) b6⟩
  exact main n 0 [] news (by omega) h0
end
structure Row where
  a : Addr
  v : List (Int × Tok)
  n : Nat
abbrev ivals (l : List (Int × Tok)) : List Value := l.map fun p => .int p.1 p.2
abbrev Row.ent (r : Row) : Addr × Obj := (r.a, listOf (ivals r.v).toArray r.n)
theorem ints_ivals : ∀ {us : List Value} {ns : List Int}, IntsAre us ns → ∃ l : List (Int × Tok), us = ivals l ∧ l.map (·.1) = ns
  | _, _, .nil => ⟨[], rfl, rfl⟩
  | _, _, .cons n t h => by
    obtain ⟨l, rfl, rfl⟩ := ints_ivals h
    exact ⟨(n, t) :: l, rfl, rfl⟩
/-- the rows made so far, the newest first -/
def RowsOk (N : Nat) (ex : List Addr) (rest : CbLed) (i : Nat) (ys : List Value) (tl : CbLed) : Prop :=
  ∃ rs : List Row, rs.length = i ∧ ys = rs.reverse.map (fun r => Value.ref r.a) ∧ tl = rs.map Row.ent ++ rest ∧ (∀ r ∈ rs, r.v.map (·.1) = List.replicate N 0) ∧ rs.Pairwise (fun r q => r.a ≠ q.a) ∧ (∀ r ∈ rs, ∀ p ∈ rest, p.1 ≠ r.a) ∧ ∀ r ∈ rs, ∀ a ∈ ex, a ≠ r.a
theorem RowsOk.nil {N : Nat} {ex : List Addr} {rest : CbLed} : RowsOk N ex rest 0 [] rest := ⟨[], rfl, rfl, rfl, by simp, .nil, by simp, by simp⟩
theorem RowsOk.snoc {N : Nat} {ex : List Addr} {rest tl : CbLed} {i : Nat} {ys us : List Value} {D : Nat} (x : RowsOk N ex rest i ys tl) (hi : IntsAre us (List.replicate N 0)) (off : ∀ p ∈ tl, p.1 ≠ D) (hex : ∀ a ∈ ex, a ≠ D) : RowsOk N ex rest (i + 1) (ys ++ [.ref D]) ((D, LCg.lst us) :: tl) := by
  obtain ⟨rs, rfl, rfl, rfl, h1, h2, h3, h4⟩ := x
  obtain ⟨l, rfl, hl⟩ := ints_ivals hi
  refine ⟨⟨D, l, (ivals l).length⟩ :: rs, rfl, by simp, rfl, ?_, List.Pairwise.cons ?_ h2, ?_, ?_⟩
  · intro r hr
    rcases List.mem_cons.mp hr with rfl | hr
    · exact hl
    · exact h1 r hr
  · intro q hq e
    exact off q.ent (List.mem_append_left _ (List.mem_map_of_mem hq)) e.symm
  · intro r hr p hp
    rcases List.mem_cons.mp hr with rfl | hr
    · exact off p (List.mem_append_right _ hp)
    · exact h3 r hr p hp
  · intro r hr a ha
    rcases List.mem_cons.mp hr with rfl | hr
    · exact hex a ha
    · exact h4 r hr a ha
theorem upd_rows {tl : CbLed} : ∀ (c : List Row) (i : Nat) (r r' : Row), c[i]? = some r → r'.a = r.a → c.Pairwise (fun r q => r.a ≠ q.a) → (∀ p ∈ tl, p.1 ≠ r.a) → Upd r.a r.ent.2 r'.ent.2 (c.map Row.ent ++ tl) ((c.set i r').map Row.ent ++ tl)
  | [], _, _, _, h, _, _, _ => by cases h
  | q :: c, 0, r, r', h, ha, hp, ht => by
    obtain rfl : q = r := by simpa using h
    have e : r'.ent = (q.a, r'.ent.2) := by show (r'.a, _) = _; rw [ha]
    show Upd q.a q.ent.2 r'.ent.2 ((q.a, q.ent.2) :: (c.map Row.ent ++ tl)) (r'.ent :: (c.map Row.ent ++ tl))
    rw [e]
    refine .head fun p hm => ?_
    rcases List.mem_append.mp hm with hm | hm
    · obtain ⟨z, hz, rfl⟩ := List.mem_map.mp hm
      exact Ne.symm ((List.pairwise_cons.mp hp).1 z hz)
    · exact ht p hm
  | q :: c, i + 1, r, r', h, ha, hp, ht => by
    have h' : c[i]? = some r := by simpa using h
    exact .tail ((List.pairwise_cons.mp hp).1 r (List.mem_of_getElem? h')) (upd_rows c i r r' h' ha (List.pairwise_cons.mp hp).2 ht)
/-- the rows hold the matrix M -/
structure LsAt (N : Nat) (adr : List Addr) (M : List (List Int)) (c : List Row) : Prop where
  adr : c.map Row.a = adr
  vls : c.map (fun r => r.v.map (·.1)) = M
  len : ∀ r ∈ c, r.v.length = N
theorem LsAt.row {N : Nat} {adr : List Addr} {M : List (List Int)} {c : List Row} (x : LsAt N adr M c) {i : Nat} (hi : i < adr.length) : ∃ r, c[i]? = some r ∧ adr[i]? = some r.a ∧ M.getD i [] = r.v.map (·.1) ∧ r.v.length = N := by
  have hl : c.length = adr.length := by rw [← x.adr, List.length_map]
  have h : i < c.length := hl ▸ hi
  refine ⟨c[i], by simp [h], ?_, ?_, x.len _ (List.getElem_mem h)⟩
  · rw [← x.adr]; simp [h]
  · rw [← x.vls]; simp [h]
theorem LsAt.item {N : Nat} {adr : List Addr} {M : List (List Int)} {c : List Row} (x : LsAt N adr M c) {i j : Nat} (hi : i < adr.length) (hj : j < N) : ∃ r t, c[i]? = some r ∧ adr[i]? = some r.a ∧ (ivals r.v)[j]? = some (.int ((M.getD i []).getD j 0) t) := by
  obtain ⟨r, h1, h2, h3, h4⟩ := x.row hi
  have h : j < r.v.length := h4 ▸ hj
  refine ⟨r, r.v[j].2, h1, h2, ?_⟩
  rw [h3]
  simp [ivals, h]
theorem LsAt.set {N : Nat} {adr : List Addr} {M : List (List Int)} {c : List Row} (x : LsAt N adr M c) {i k : Nat} {r : Row} (hr : c[i]? = some r) (y : Int) (t : Tok) : LsAt N adr (M.set i ((M.getD i []).set k y)) (c.set i ⟨r.a, r.v.set k (y, t), r.n⟩) := by
  have h : i < c.length := by
    rcases Nat.lt_or_ge i c.length with h | h
    · exact h
    · rw [List.getElem?_eq_none h] at hr; cases hr
  have hr' : c[i] = r := by rw [List.getElem?_eq_getElem h] at hr; exact Option.some.inj hr
  refine ⟨?_, ?_, ?_⟩
  · rw [List.map_set, ← x.adr]
    show (c.map Row.a).set i r.a = _
    conv => rhs; rw [← List.set_getElem_self (as := c.map Row.a) (i := i) (by simpa using h)]
    simp [hr']
  · rw [List.map_set, ← x.vls]
    congr 1
    simp [h, hr', List.map_set]
  · intro q hq
    rcases List.mem_or_eq_of_mem_set hq with hq | rfl
    · exact x.len q hq
    · rw [List.length_set]; exact x.len r (hr' ▸ List.getElem_mem h)
def gM (M : List (List Int)) (a b : Nat) : Int := (M.getD a []).getD b 0
def prL (codes : List Nat) (a b : Nat) : Int := if codes.getD a 0 = codes.getD b 0 then 0 else if codes.getD a 0 / 2 = codes.getD b 0 / 2 then 1 else 2
def lsI (codes : List Nat) (ln : Nat) (M : List (List Int)) (i : Nat) : List (List Int) :=
  M.set i ((M.getD i []).set (i + ln) (pmin (2 + pmin (gM M (i + 1) (i + ln)) (gM M i (i + ln - 1))) (prL codes i (i + ln - 1) + gM M (i + 1) (i + ln - 1))))
def lsO (codes : List Nat) (N : Nat) (M : List (List Int)) (ln : Nat) : List (List Int) := (List.range (N - ln + 1)).foldl (lsI codes ln) M
def leastL (codes : List Nat) : Int :=
  gM ((List.range' 2 (codes.length - 1)).foldl (lsO codes codes.length) (List.replicate (codes.length + 1) (List.replicate (codes.length + 1) 0))) 0 codes.length
abbrev LedR (D nD : Nat) (e1 e2 : Addr × Obj) (rest : CbLed) (adr : List Addr) (c : List Row) : CbLed := (D, listOf (adr.map Value.ref).toArray nD) :: e1 :: e2 :: (c.map Row.ent ++ rest)
theorem off1_all {D : Addr} : ∀ {l : CbLed}, LCg.Off1 D l → ∀ p ∈ l, p.1 ≠ D
  | [], _, _, h => nomatch h
  | _ :: _, x, p, h => by
    rcases List.mem_cons.mp h with rfl | h
    · exact x.1
    · exact off1_all x.2 p h
section
variable {prog : Program} {w : World} {A : Around} {E : Value → Shared → Prop} {s : Shared} {h₀ : Heap} {L D : Addr} {m : Str → Option Value} {news : CbLed} {vs : List Value} {n : Nat}
theorem item_nat {value slice : PySem.Expr} {k : Int} {u : Tok} {v : Value} {Q : Value → Shared → Prop} (j : Nat) (N : News h₀ L s.heap news) (hm : (D, listOf vs.toArray n) ∈ news) (hk : k = (j : Int)) (hj : j ≤ 1000) (hx : vs[j]? = some v) (h : Q v s)
    (hs : subscripted slice false (.ref D) (.int k u) = operate [.ref D, .int k u] (getItem (.ref D) (.int k u)) := by with_unfolding_all rfl) :
    wpAny (model prog w) A (subscriptTail value slice (.ref D) (.int k u)) Q E s := by
  subst hk
  exact item_at N hm (by omega) (by omega) (by rw [Int.toNat_natCast]; exact hx) h hs
theorem mem_row {e1 e2 : Addr × Obj} {rest : CbLed} {adr : List Addr} {c : List Row} {i : Nat} {r : Row} (hr : c[i]? = some r) : (r.a, listOf (ivals r.v).toArray r.n) ∈ LedR D n e1 e2 rest adr c :=
  .tail _ (.tail _ (.tail _ (List.mem_append_left _ (List.mem_map_of_mem (f := Row.ent) (List.mem_of_getElem? hr)))))
theorem cod_get : ∀ {us : List Value} {codes : List Nat}, IntsAre us (codes.map fun (c : Nat) => (c : Int)) → ∀ {j : Nat}, j < codes.length → ∃ t, us[j]? = some (.int (codes.getD j 0 : Nat) t)
  | [], [], _, _, h => by cases h
  | _ :: us, c :: codes, .cons _ t h, 0, _ => ⟨t, rfl⟩
  | _ :: us, c :: codes, .cons _ t h, j + 1, hj => by
    obtain ⟨t', ht⟩ := cod_get h (j := j) (by simpa using hj)
    exact ⟨t', by simpa using ht⟩
theorem row_set {e1 e2 : Addr × Obj} {tl : CbLed} {adr : List Addr} {c : List Row} {W i j : Nat} {M : List (List Int)} {r : Row} {k x : Int} {t u : Tok} {Q : Unit → Shared → Prop} (F : Fr h₀ L s.heap m) (N : News h₀ L s.heap (LedR D n e1 e2 tl adr c)) (hL : LsAt W adr M c) (hr : c[i]? = some r)
    (off : ∀ a ∈ adr, D ≠ a ∧ e1.1 ≠ a ∧ e2.1 ≠ a ∧ ∀ p ∈ tl, p.1 ≠ a) (hpw : adr.Pairwise (· ≠ ·)) (hk : k = (j : Int)) (hj : j < W) (hW : W ≤ 1000)
    (h : ∀ h', Fr h₀ L h' m → News h₀ L h' (LedR D n e1 e2 tl adr (c.set i ⟨r.a, r.v.set j (x, u), r.n⟩)) → Q () { s with heap := h' }) :
    wpAny (model prog w) A (setItem (.ref r.a) (.int k t) (.int x u)) Q E s := by
  subst hk
  have ha : r.a ∈ adr := by rw [← hL.adr]; exact List.mem_map_of_mem (List.mem_of_getElem? hr)
  have hlen : r.v.length = W := hL.len r (List.mem_of_getElem? hr)
  have hpc : c.Pairwise (fun r q => r.a ≠ q.a) := by rw [← hL.adr] at hpw; exact List.pairwise_map.mp hpw
  obtain ⟨o1, o2, o3, o4⟩ := off _ ha
  have e : (ivals r.v).set (j : Int).toNat (.int x u) = ivals (r.v.set j (x, u)) := by
    rw [Int.toNat_natCast]; unfold ivals; rw [List.map_set]
  have U : Upd r.a (listOf (ivals r.v).toArray r.n) (listOf ((ivals r.v).set (j : Int).toNat (.int x u)).toArray r.n) (LedR D n e1 e2 tl adr c) (LedR D n e1 e2 tl adr (c.set i ⟨r.a, r.v.set j (x, u), r.n⟩)) := by
    rw [e]
    exact .tail o1 (.tail o2 (.tail o3 (upd_rows c i r ⟨r.a, r.v.set j (x, u), r.n⟩ hr rfl hpc o4)))
  have hi : ∀ l : List (Int × Tok), IntsAre (ivals l) (l.map (·.1)) := by
    intro l
    induction l with
    | nil => exact .nil
    | cons p l ih => exact .cons p.1 p.2 ih
  exact ksa_set F N U (hi r.v) (by omega) (by rw [List.length_map]; omega) (by omega) (fun h' F' N' _ _ _ => h h' F' N')
end
theorem fd2 (a : Nat) : ((a : Nat) : Int).fdiv 2 = ((a / 2 : Nat) : Int) := by
  rw [Int.fdiv_eq_ediv_of_nonneg _ (by decide)]; rfl
theorem adr_mem {W D n : Nat} {e1 e2 : Addr × Obj} {rest : CbLed} {adr : List Addr} {M : List (List Int)} {c : List Row} (x : LsAt W adr M c) {a : Addr} (ha : a ∈ adr) : a ∈ (LedR D n e1 e2 rest adr c).map (·.1) := by
  rw [← x.adr] at ha
  obtain ⟨r, hr, rfl⟩ := List.mem_map.mp ha
  exact List.mem_map.mpr ⟨r.ent, .tail _ (.tail _ (.tail _ (List.mem_append_left _ (List.mem_map_of_mem hr)))), rfl⟩
theorem led_mono {D n : Nat} {e1 e2 : Addr × Obj} {r1 r2 : CbLed} {adr : List Addr} {c : List Row} (h : ∀ p ∈ r1, p ∈ r2) : ∀ p ∈ LedR D n e1 e2 r1 adr c, p ∈ LedR D n e1 e2 r2 adr c := by
  intro p hp
  rcases List.mem_cons.mp hp with rfl | hp
  · exact .head _
  rcases List.mem_cons.mp hp with rfl | hp
  · exact .tail _ (.head _)
  rcases List.mem_cons.mp hp with rfl | hp
  · exact .tail _ (.tail _ (.head _))
  rcases List.mem_append.mp hp with hp | hp
  · exact .tail _ (.tail _ (.tail _ (List.mem_append_left _ hp)))
  · exact .tail _ (.tail _ (.tail _ (List.mem_append_right _ (h p hp))))
theorem led_rest {D n : Nat} {e1 e2 : Addr × Obj} {r : CbLed} {adr : List Addr} {c : List Row} : ∀ p ∈ r, p ∈ LedR D n e1 e2 r adr c := fun _ hp => .tail _ (.tail _ (.tail _ (List.mem_append_right _ hp)))
theorem led_app {D n : Nat} {e1 e2 : Addr × Obj} {rest own : CbLed} {adr : List Addr} {c : List Row} : ∀ p ∈ LedR D n e1 e2 (rest ++ own) adr c, p ∈ LedR D n e1 e2 rest adr c ++ own := by
  intro p hp
  have e : LedR D n e1 e2 (rest ++ own) adr c = LedR D n e1 e2 rest adr c ++ own := by
    simp only [LedR, List.cons_append, List.append_assoc]
  rw [← e]; exact hp
theorem fmN (a b : Nat) : ((a : Nat) : Int).fmod (b : Nat) = ((a % b : Nat) : Int) := by
  rw [Int.fmod_eq_emod_of_nonneg _ (by omega)]; rfl
section
variable {prog : Program} {w : World} {A : Around} {E : Value → Shared → Prop} {s : Shared} {h₀ : Heap} {L D : Addr} {m : Str → Option Value} {news : CbLed} {vs : List Value} {n : Nat}
theorem get_nat {k : Int} {u : Tok} {v : Value} {Q : Value → Shared → Prop} (j : Nat) (N : News h₀ L s.heap news) (hm : (D, listOf vs.toArray n) ∈ news) (hk : k = (j : Int)) (hj : j ≤ 1000) (hx : vs[j]? = some v) (h : Q v s) :
    wpAny (model prog w) A (getItem (.ref D) (.int k u)) Q E s := by
  subst hk
  have hl : s.heap.IsList D vs.toArray := PySem.IsL.isList (n := n) (N _ hm).1
  exact wpAny_getItem_list hl (by omega) (by omega) (by rw [Int.toNat_natCast]; simpa using hx) h
end
theorem ints_iv : ∀ l : List (Int × Tok), IntsAre (ivals l) (l.map (·.1))
  | [] => .nil
  | p :: l => .cons p.1 p.2 (ints_iv l)
theorem ints_app {y : Int} {t : Tok} : ∀ {ys : List Value} {ns : List Int}, IntsAre ys ns → IntsAre (ys ++ [.int y t]) (ns ++ [y])
  | _, _, .nil => .cons _ t .nil
  | _, _, .cons n u h => .cons n u (ints_app h)
theorem ints_snoc {y : Int} {c : Nat} {t : Tok} (e : y = (c : Int)) {ys : List Value} {codes : List Nat} (h : IntsAre ys (codes.map fun (c : Nat) => (c : Int))) : IntsAre (ys ++ [.int y t]) ((codes ++ [c]).map fun (c : Nat) => (c : Int)) := by
  subst e
  rw [List.map_append]
  exact ints_app h
end Mine
end
section
open PySem PySem.W PyProof.Rows PySem.Calls PySem.Spec
namespace Mine
namespace least_ct_e
def St9 (w : World) (p : Program) (loose : List Str) (mean : ExcName → Option Value) (mg : Str → Option Value) (mb : Str → Option Value) (rest : CbLed) (C : Addr) (cv : List Value) (nc : Nat) (codes : List Nat) (dp : Nat) (un : Nat) (gd : Option (List Code)) (cn : Str) (cs : Scope) (a0 : Addr) (ccd : Value) (cl : List (Str × Addr)) (outr : List Env) (A₀ : Around) (base : Heap) (h₀ : Heap) (L : Addr) (m : Str → Option Value) (s : Shared) (Q : Value → Shared → Prop) (E : Value → Shared → Prop) : Prop :=
  (IntsAre cv (codes.map fun (c : Nat) => (c : Int))) → (cv.length = 6) → CtB w p loose mean mg mb 8 131 ((C, listOf cv.toArray nc) :: rest) [.ref C] (fun t => .int (leastL codes) t) dp un gd cn cs a0 ccd cl outr A₀ base h₀ L m s Q E
abbrev Vt9 : Type := World × Program × (List Str) × (ExcName → Option Value) × (Str → Option Value) × (Str → Option Value) × CbLed × Addr × (List Value) × Nat × (List Nat) × Nat × Nat × (Option (List Code)) × Str × Scope × Addr × Value × (List (Str × Addr)) × (List Env) × Around × Heap × Heap × Addr × (Str → Option Value) × Shared × (Value → Shared → Prop) × (Value → Shared → Prop)
theorem ne9 : Nonempty Vt9 := by
  obtain ⟨w0⟩ := neW
  exact ⟨w0, default, [], (fun _ => none), (fun _ => none), (fun _ => none), [], 0, [], 0, [], 0, 0, none, default, default, 0, .none, [], [], callerA, {}, {}, 0, (fun _ => none), {}, (fun _ _ => True), (fun _ _ => True)⟩
def Sp9 (t : Vt9) : Prop := St9 (t.1) (t.2.1) (t.2.2.1) (t.2.2.2.1) (t.2.2.2.2.1) (t.2.2.2.2.2.1) (t.2.2.2.2.2.2.1) (t.2.2.2.2.2.2.2.1) (t.2.2.2.2.2.2.2.2.1) (t.2.2.2.2.2.2.2.2.2.1) (t.2.2.2.2.2.2.2.2.2.2.1) (t.2.2.2.2.2.2.2.2.2.2.2.1) (t.2.2.2.2.2.2.2.2.2.2.2.2.1) (t.2.2.2.2.2.2.2.2.2.2.2.2.2.1) (t.2.2.2.2.2.2.2.2.2.2.2.2.2.2.1) (t.2.2.2.2.2.2.2.2.2.2.2.2.2.2.2.1) (t.2.2.2.2.2.2.2.2.2.2.2.2.2.2.2.2.1) (t.2.2.2.2.2.2.2.2.2.2.2.2.2.2.2.2.2.1) (t.2.2.2.2.2.2.2.2.2.2.2.2.2.2.2.2.2.2.1) (t.2.2.2.2.2.2.2.2.2.2.2.2.2.2.2.2.2.2.2.1) (t.2.2.2.2.2.2.2.2.2.2.2.2.2.2.2.2.2.2.2.2.1) (t.2.2.2.2.2.2.2.2.2.2.2.2.2.2.2.2.2.2.2.2.2.1) (t.2.2.2.2.2.2.2.2.2.2.2.2.2.2.2.2.2.2.2.2.2.2.1) (t.2.2.2.2.2.2.2.2.2.2.2.2.2.2.2.2.2.2.2.2.2.2.2.1) (t.2.2.2.2.2.2.2.2.2.2.2.2.2.2.2.2.2.2.2.2.2.2.2.2.1) (t.2.2.2.2.2.2.2.2.2.2.2.2.2.2.2.2.2.2.2.2.2.2.2.2.2.1) (t.2.2.2.2.2.2.2.2.2.2.2.2.2.2.2.2.2.2.2.2.2.2.2.2.2.2.1) (t.2.2.2.2.2.2.2.2.2.2.2.2.2.2.2.2.2.2.2.2.2.2.2.2.2.2.2)
noncomputable def c9 : Vt9 := @Classical.epsilon Vt9 ne9 fun t => ¬ Sp9 t
@[irreducible] noncomputable def w : World := c9.1
@[irreducible] noncomputable def p : Program := c9.2.1
@[irreducible] noncomputable def loose : List Str := c9.2.2.1
@[irreducible] noncomputable def mean : ExcName → Option Value := c9.2.2.2.1
@[irreducible] noncomputable def mg : Str → Option Value := c9.2.2.2.2.1
@[irreducible] noncomputable def mb : Str → Option Value := c9.2.2.2.2.2.1
@[irreducible] noncomputable def rest : CbLed := c9.2.2.2.2.2.2.1
@[irreducible] noncomputable def C : Addr := c9.2.2.2.2.2.2.2.1
@[irreducible] noncomputable def cv : List Value := c9.2.2.2.2.2.2.2.2.1
@[irreducible] noncomputable def nc : Nat := c9.2.2.2.2.2.2.2.2.2.1
@[irreducible] noncomputable def codes : List Nat := c9.2.2.2.2.2.2.2.2.2.2.1
@[irreducible] noncomputable def dp : Nat := c9.2.2.2.2.2.2.2.2.2.2.2.1
@[irreducible] noncomputable def un : Nat := c9.2.2.2.2.2.2.2.2.2.2.2.2.1
@[irreducible] noncomputable def gd : Option (List Code) := c9.2.2.2.2.2.2.2.2.2.2.2.2.2.1
@[irreducible] noncomputable def cn : Str := c9.2.2.2.2.2.2.2.2.2.2.2.2.2.2.1
@[irreducible] noncomputable def cs : Scope := c9.2.2.2.2.2.2.2.2.2.2.2.2.2.2.2.1
@[irreducible] noncomputable def a0 : Addr := c9.2.2.2.2.2.2.2.2.2.2.2.2.2.2.2.2.1
@[irreducible] noncomputable def ccd : Value := c9.2.2.2.2.2.2.2.2.2.2.2.2.2.2.2.2.2.1
@[irreducible] noncomputable def cl : List (Str × Addr) := c9.2.2.2.2.2.2.2.2.2.2.2.2.2.2.2.2.2.2.1
@[irreducible] noncomputable def outr : List Env := c9.2.2.2.2.2.2.2.2.2.2.2.2.2.2.2.2.2.2.2.1
@[irreducible] noncomputable def A₀ : Around := c9.2.2.2.2.2.2.2.2.2.2.2.2.2.2.2.2.2.2.2.2.1
@[irreducible] noncomputable def base : Heap := c9.2.2.2.2.2.2.2.2.2.2.2.2.2.2.2.2.2.2.2.2.2.1
@[irreducible] noncomputable def h₀ : Heap := c9.2.2.2.2.2.2.2.2.2.2.2.2.2.2.2.2.2.2.2.2.2.2.1
@[irreducible] noncomputable def L : Addr := c9.2.2.2.2.2.2.2.2.2.2.2.2.2.2.2.2.2.2.2.2.2.2.2.1
@[irreducible] noncomputable def m : Str → Option Value := c9.2.2.2.2.2.2.2.2.2.2.2.2.2.2.2.2.2.2.2.2.2.2.2.2.1
@[irreducible] noncomputable def s : Shared := c9.2.2.2.2.2.2.2.2.2.2.2.2.2.2.2.2.2.2.2.2.2.2.2.2.2.1
@[irreducible] noncomputable def Q : Value → Shared → Prop := c9.2.2.2.2.2.2.2.2.2.2.2.2.2.2.2.2.2.2.2.2.2.2.2.2.2.2.1
@[irreducible] noncomputable def E : Value → Shared → Prop := c9.2.2.2.2.2.2.2.2.2.2.2.2.2.2.2.2.2.2.2.2.2.2.2.2.2.2.2
set_option maxRecDepth 100000 in
set_option maxHeartbeats 8000000 in
theorem core9 : St9 w p loose mean mg mb rest C cv nc codes dp un gd cn cs a0 ccd cl outr A₀ base h₀ L m s Q E := by
  unfold St9 CtB Ret P0
  k_fill
  intro hi hN hB hF hX hN' hT hcs hdp hun hret
  refine wpAny_call ?_
  refine' code_defC ?k1 ?k2 ?k3 ?k4 ?k5 ?kA ?kF ?kK ?k6 ?k7 ?k8 ?k9 ?kB ?kD ?_ ?c2 ?c3 ?c4
  case kA => exact rfl
  case kF => exact rfl
  case kK => assumption
  case k1 => k_asm
  case k2 => k_asm
  case k3 => k_asm
  case k4 => k_asm
  case k5 => k_asm
  case k6 => k_is
  case k7 => k_is
  case k8 => ktr_room
  case k9 => exact BindsTo.of_eq rfl
  case kB => exact rfl
  case kD => decide +kernel
  case c2 => exact rfl
  case c3 => exact rfl
  case c4 => exact rfl
  k_whole
  intro g' L' h' tk' cells' FG' F' N' Y' B' X' T' l1
  try k_lt l1
  k_cells Y'
  rename _ = Data.cell _ => d1'
  try simp only [List.cons_append, List.nil_append] at N'
  try dsimp only
  try k_lift B'
  try k_fold
  obtain ⟨u0, F1⟩ : ∃ u0, Fr g' L' h' (kstB u0 [(Str.ofString "codes", Value.ref C)]) := ⟨_, fr_norm [(Str.ofString "codes", Value.ref C)] F' (by intro p hp; rw [List.mem_singleton.mp hp]; rfl)⟩
  clear F'
  repeat' (first | (k_unfold; (try dsimp only)) | ((fail_if_success (with_reducible show wpAny _ _ (exec (Stmt.While _ _ _ _) _) _ _ _)); (fail_if_success (with_reducible show wpAny _ _ (exec (Stmt.For _ _ _ _ _) _) _ _ _)); (fail_if_success (with_reducible show wpAny _ _ (pyIter _) _ _ _)); first | walk1 | (dsimp only; walk1)) | (leave1; (try dsimp only)))
  rename News _ _ _ _ => N1
  refine len_at N1 (by k_mem) (by omega) ?_
  rw [hN]
  dsimp only
  have off1 : ∀ p ∈ (C, listOf cv.toArray nc) :: rest, p.1 ≠ L' + 1 := by
    intro p hp
    rcases List.mem_cons.mp hp with rfl | hp
    · exact Nat.ne_of_lt (Nat.lt_succ_of_lt l1.1)
    · exact Nat.ne_of_lt (Nat.lt_succ_of_lt (allLt_all l1.2 p hp))
  refine storeX_C (c := L' + 1) F1 N1 rfl (UpdF.head off1) d1' ?_
  intro h2 oc F2 N2 hoc
  clear F1 N1
  dsimp only at N2 ⊢
  repeat' (first | (k_unfold; (try dsimp only)) | ((fail_if_success (with_reducible show wpAny _ _ (exec (Stmt.While _ _ _ _) _) _ _ _)); (fail_if_success (with_reducible show wpAny _ _ (exec (Stmt.For _ _ _ _ _) _) _ _ _)); (fail_if_success (with_reducible show wpAny _ _ (pyIter _) _ _ _)); (fail_if_success (with_reducible show wpAny _ _ (exec (Stmt.Assign _ _ (Pos.mk 118 _ _ _)) _) _ _ _)); first | walk1 | (dsimp only; walk1)) | (leave1; (try dsimp only)))
  k_dflt (refine LCg.Assign_ListComp_U (F₀ := by k_asm) (by rfl) (by with_unfolding_all rfl) (by with_unfolding_all rfl) (by decide) (by rfl) (by decide) (by rfl) (by rfl) (by rfl) ?_)
  repeat (first | (k_unfold; (try dsimp only)) | ((fail_if_success (with_reducible show LCg.CompSrc _ _ _ _ _ _ _ _ _ _ _ _ _ _)); first | walk1 | (dsimp only; walk1)))
  k_dflt (refine LCg.CompSrc.range (by rfl) (by k_asm) (by k_asm) (by assumption) (by first | decide | rfl) (by first | rfl | decide) (by first | size_fits | exact Nat.le_of_ble_eq_true rfl) ?_)
  intro gg
  refine comp_ind (fun i ys nw => ∃ tl, nw = (L' + 1, oc) :: (C, listOf cv.toArray nc) :: tl ∧ RowsOk 7 [L' + 1, C] rest i ys tl) 7 ?step ?fin ⟨rest, rfl, RowsOk.nil⟩
  case step =>
    rintro i ys nw hi9 ⟨tl, rfl, hR⟩ v I oI C' oC D m₂ h tk E' hv hC hx F3 N3 off ne
    repeat' (first | (k_unfold; (try dsimp only)) | ((fail_if_success (with_reducible show wpAny _ _ (exec (Stmt.While _ _ _ _) _) _ _ _)); (fail_if_success (with_reducible show wpAny _ _ (exec (Stmt.For _ _ _ _ _) _) _ _ _)); (fail_if_success (with_reducible show wpAny _ _ (pyIter _) _ _ _)); first | walk1 | (dsimp only; walk1)) | (leave1; (try dsimp only)))
    rename IntsAre _ _ => hI8
    rename Fr _ _ _ _ => F5
    rename News _ _ _ _ => N5
    rename _ ∧ _ ∧ _ ∧ _ ∧ _ ∧ LCg.Off1 _ _ => o5
    refine LCg.CompEnd.intro F5 N5 ((L' + 1, oc) :: (C, listOf cv.toArray nc) :: (_, _) :: tl) ?sub ⟨off.1, off.2.1, ⟨Ne.symm o5.1, Ne.symm o5.2.1, Ne.symm o5.2.2.1⟩, off.2.2⟩ trivial ⟨_, rfl, hR.snoc hI8 (off1_all o5.2.2.2.2.2) ?ex⟩
    case sub =>
      intro p hp
      simp only [List.mem_cons] at hp ⊢
      rcases hp with rfl | rfl | rfl | rfl | rfl | rfl | hp
      · exact .inr (.inl rfl)
      · exact .inr (.inr (.inl rfl))
      · exact .inr (.inr (.inr (.inl rfl)))
      · exact .inr (.inr (.inr (.inr (.inl rfl))))
      · exact .inr (.inr (.inr (.inr (.inr (.inl rfl)))))
      · exact .inl rfl
      · exact .inr (.inr (.inr (.inr (.inr (.inr hp)))))
    case ex =>
      intro a ha
      rcases List.mem_cons.mp ha with rfl | ha
      · exact o5.2.2.2.1
      · rw [List.mem_singleton.mp ha]; exact o5.2.2.2.2.1
  case fin =>
    rintro ys nw ⟨tl, rfl, rs, hlen, rfl, rfl, hz, hpw, hrest, hex⟩
    intro D h tk F3 N3 off
    obtain ⟨u1, F4⟩ : ∃ u1, Fr g' L' h (kstB u1 [(Str.ofString "least", Value.ref D), (Str.ofString "codes", Value.ref C)]) := ⟨_, fr_norm [(Str.ofString "least", Value.ref D), (Str.ofString "codes", Value.ref C)] F3 (by walk_at "K")⟩
    clear F3
    dsimp only
    have hlR : (rs.reverse.map Row.a).length = 7 := by simp [hlen]
    have hoffR : ∀ a ∈ rs.reverse.map Row.a, D ≠ a ∧ L' + 1 ≠ a ∧ C ≠ a ∧ ∀ p ∈ rest, p.1 ≠ a := by
      intro a ha
      obtain ⟨r, hr, rfl⟩ := List.mem_map.mp ha
      rw [List.mem_reverse] at hr
      exact ⟨Ne.symm (off1_all off.2.2 r.ent (List.mem_append_left _ (List.mem_map_of_mem hr))), hex r hr _ (.head _), hex r hr _ (.tail _ (.head _)), hrest r hr⟩
    have hpwR : (rs.reverse.map Row.a).Pairwise (· ≠ ·) := by
      rw [List.pairwise_map, List.pairwise_reverse]
      exact hpw.imp fun h => Ne.symm h
    have hoD : ∀ p ∈ rest, p.1 ≠ D := fun p hp => off1_all off.2.2 p (List.mem_append_right _ hp)
    have hoE : L' + 1 ≠ D ∧ C ≠ D := ⟨off.1, off.2.1⟩
    have hL0 : LsAt 7 (rs.reverse.map Row.a) (List.replicate 7 (List.replicate 7 0)) rs.reverse := ⟨rfl, by
      rw [List.eq_replicate_iff]
      refine ⟨by simp [hlen], fun b hb => ?_⟩
      obtain ⟨r, hr, rfl⟩ := List.mem_map.mp hb
      exact hz r (List.mem_reverse.mp hr), fun r hr => by
      have z := congrArg List.length (hz r (List.mem_reverse.mp hr))
      simpa using z⟩
    have er : rs.reverse.map (fun r => Value.ref r.a) = (rs.reverse.map Row.a).map Value.ref := by rw [List.map_map]; rfl
    rw [er] at N3
    have N4 : News g' L' h (LedR D _ (L' + 1, oc) (C, listOf cv.toArray nc) rest (rs.reverse.map Row.a) rs.reverse) := kst_newsOf N3 (by
      intro p hp
      simp only [LedR, List.mem_cons, List.mem_append, List.mem_map, List.mem_reverse] at hp ⊢
      exact hp)
    clear N3 er
    generalize rs.reverse.map Row.a = adr at *
    generalize rs.reverse = R at *
    clear hz hpw hrest hex
    rename IsRange _ _ _ _ _ _ _ _ => R0
    clear R0
    repeat' (first | (k_unfold; (try dsimp only)) | ((fail_if_success (with_reducible show wpAny _ _ (exec (Stmt.While _ _ _ _) _) _ _ _)); (fail_if_success (with_reducible show wpAny _ _ (exec (Stmt.For _ _ _ _ _) _) _ _ _)); (fail_if_success (with_reducible show wpAny _ _ (pyIter _) _ _ _)); first | walk1 | (dsimp only; walk1)) | (leave1; (try dsimp only)))
    walk1
    repeat' (first | (k_unfold; (try dsimp only)) | ((fail_if_success (with_reducible show wpAny _ _ (exec (Stmt.While _ _ _ _) _) _ _ _)); (fail_if_success (with_reducible show wpAny _ _ (exec (Stmt.For _ _ _ _ _) _) _ _ _)); (fail_if_success (with_reducible show wpAny _ _ (pyIter _) _ _ _)); first | walk1 | (dsimp only; walk1)) | (leave1; (try dsimp only)))
    rename IsRange _ _ _ _ _ _ _ _ => R7
    rename Fr _ _ _ _ => F5
    rename News _ _ _ _ => N5
    refine rng (σ := List Row) (n := 5) (fun c => LedR D _ (L' + 1, oc) (C, listOf cv.toArray nc) rest adr c) (fun c => [(Str.ofString "least", Value.ref D), (Str.ofString "codes", Value.ref C)]) (fun i c => LsAt 7 adr ((List.range' 2 i).foldl (lsO codes 6) (List.replicate 7 (List.replicate 7 0))) c) R rfl R7 (by first | rfl | decide) (by first | rfl | decide) F5 N5 (by walk_at "K") hL0 ?hadr ?turn ?done
    case hadr =>
      intro i c hc
      simp only [LedR, List.map_cons, List.map_append, List.map_map]
      have e1 : c.map ((fun x => x.fst) ∘ Row.ent) = adr := hc.adr
      have e2 : R.map ((fun x => x.fst) ∘ Row.ent) = adr := hL0.adr
      rw [e1, e2]
    case turn =>
      rintro i c u t h7 tk7 own hi9 hoff hL F8 N8
      clear F5 N5 R7
      simp only [Int.mul_one] at F8
      repeat' (first | (k_unfold; (try dsimp only)) | ((fail_if_success (with_reducible show wpAny _ _ (exec (Stmt.While _ _ _ _) _) _ _ _)); (fail_if_success (with_reducible show wpAny _ _ (exec (Stmt.For _ _ _ _ _) _) _ _ _)); (fail_if_success (with_reducible show wpAny _ _ (pyIter _) _ _ _)); first | walk1 | (dsimp only; walk1)) | (leave1; (try dsimp only)))
      walk1
      repeat' (first | (k_unfold; (try dsimp only)) | ((fail_if_success (with_reducible show wpAny _ _ (exec (Stmt.While _ _ _ _) _) _ _ _)); (fail_if_success (with_reducible show wpAny _ _ (exec (Stmt.For _ _ _ _ _) _) _ _ _)); (fail_if_success (with_reducible show wpAny _ _ (pyIter _) _ _ _)); first | walk1 | (dsimp only; walk1)) | (leave1; (try dsimp only)))
      rename IsRange _ _ _ _ _ _ _ _ => R9
      rename Fr _ _ _ _ => F9
      rename News _ _ _ _ => N9
      generalize hM : (List.range' 2 i).foldl (lsO codes 6) (List.replicate 7 (List.replicate 7 0)) = M at hL
      have N9' : News g' L' _ (LedR D _ (L' + 1, oc) (C, listOf cv.toArray nc) (rest ++ own) adr c) := kst_newsOf N9 led_app
      refine rng (σ := List Row) (n := 5 - i) (fun c => LedR D _ (L' + 1, oc) (C, listOf cv.toArray nc) (rest ++ own) adr c) (fun c => [(Str.ofString "length", Value.int (2 + (i : Int)) t), (Str.ofString "least", Value.ref D), (Str.ofString "codes", Value.ref C)]) (fun j c => LsAt 7 adr ((List.range j).foldl (lsI codes (2 + i)) M) c) c rfl R9 (small_one (by omega) (by omega) (by omega) (by omega)) (by rw [rangeSize_nat]; omega) F9 N9' (by walk_at "K") hL ?hadr2 ?turn2 ?done2
      case hadr2 =>
        intro i c3 hc
        simp only [LedR, List.map_cons, List.map_append, List.map_map]
        have e1 : c3.map ((fun x => x.fst) ∘ Row.ent) = adr := hc.adr
        have e2 : c.map ((fun x => x.fst) ∘ Row.ent) = adr := hL.adr
        rw [e1, e2]
      case turn2 =>
        rintro j c2 u2 t2 h9 tk9 own2 hj hoff2 hL2 Fa Na
        clear F9 N9 N9' R9
        simp only [Int.zero_add, Int.mul_one] at Fa
        repeat' (first | (k_unfold; (try dsimp only)) | ((fail_if_success (with_reducible show wpAny _ _ (exec (Stmt.While _ _ _ _) _) _ _ _)); (fail_if_success (with_reducible show wpAny _ _ (exec (Stmt.For _ _ _ _ _) _) _ _ _)); (fail_if_success (with_reducible show wpAny _ _ (pyIter _) _ _ _)); (fail_if_success (with_reducible show wpAny _ _ (exec (Stmt.If _ _ _ (Pos.mk 123 _ _ _)) _) _ _ _)); (fail_if_success (with_reducible show wpAny _ _ (subscriptTail _ _ (Value.ref _) (Value.int _ _)) _ _ _)); first | walk1 | (dsimp only; walk1)) | (leave1; (try dsimp only)))
        rename Fr _ _ _ _ => Fb
        rename News _ _ _ _ => Nb
        have hc6 : codes.length = 6 := by have := hi.length; simp at this; omega
        obtain ⟨tp0, hp0⟩ := cod_get hi (j := j) (by omega)
        obtain ⟨tp1, hp1⟩ := cod_get hi (j := j + (2 + i) - 1) (by omega)
        refine cut_se Fb Nb (fun m' => ∃ c : Tok × Tok, ∀ p ∈ [(Str.ofString "price", Value.int (prL codes j (j + (2 + i) - 1)) c.1), (Str.ofString "stop", Value.int ((j : Int) + (2 + (i : Int))) c.2), (Str.ofString "start", Value.int (j : Int) t2), (Str.ofString "length", Value.int (2 + (i : Int)) t), (Str.ofString "least", Value.ref D), (Str.ofString "codes", Value.ref C)], m' p.1 = some p.2) ?sa ?ra
        case sa =>
          repeat' (first | (k_unfold; (try dsimp only)) | ((fail_if_success (with_reducible show wpAny _ _ (exec (Stmt.While _ _ _ _) _) _ _ _)); (fail_if_success (with_reducible show wpAny _ _ (exec (Stmt.For _ _ _ _ _) _) _ _ _)); (fail_if_success (with_reducible show wpAny _ _ (pyIter _) _ _ _)); (fail_if_success (with_reducible show wpAny _ _ (subscriptTail _ _ (Value.ref _) (Value.int _ _)) _ _ _)); first | walk1 | (dsimp only; walk1)) | (leave1; (try dsimp only)))
          rename News _ _ _ _ => Nq
          refine item_nat j Nq (.tail _ (.tail _ (.head _))) (by omega) (by omega) hp0 ?_
          repeat' (first | (k_unfold; (try dsimp only)) | ((fail_if_success (with_reducible show wpAny _ _ (exec (Stmt.While _ _ _ _) _) _ _ _)); (fail_if_success (with_reducible show wpAny _ _ (exec (Stmt.For _ _ _ _ _) _) _ _ _)); (fail_if_success (with_reducible show wpAny _ _ (pyIter _) _ _ _)); (fail_if_success (with_reducible show wpAny _ _ (subscriptTail _ _ (Value.ref _) (Value.int _ _)) _ _ _)); first | walk1 | (dsimp only; walk1)) | (leave1; (try dsimp only)))
          rename News _ _ _ _ => Nq
          refine item_nat (j + (2 + i) - 1) Nq (.tail _ (.tail _ (.head _))) (by omega) (by omega) hp1 ?_
          repeat' (first | (k_unfold; (try dsimp only)) | ((fail_if_success (with_reducible show wpAny _ _ (exec (Stmt.While _ _ _ _) _) _ _ _)); (fail_if_success (with_reducible show wpAny _ _ (exec (Stmt.For _ _ _ _ _) _) _ _ _)); (fail_if_success (with_reducible show wpAny _ _ (pyIter _) _ _ _)); (fail_if_success (with_reducible show wpAny _ _ (subscriptTail _ _ (Value.ref _) (Value.int _ _)) _ _ _)); first | walk1 | (dsimp only; walk1)) | (leave1; (try dsimp only)))
          · have he : codes.getD j 0 = codes.getD (j + (2 + i) - 1) 0 := Int.ofNat.inj ‹((codes.getD j 0 : Nat) : Int) = ((codes.getD (j + (2 + i) - 1) 0 : Nat) : Int)›
            have hpr : prL codes j (j + (2 + i) - 1) = 0 := by unfold prL; rw [if_pos he]
            rw [hpr]
            rename Fr _ _ _ _ => Fq
            rename News _ _ _ _ => Nq
            exact se_intro Fq Nq ⟨(_, _), by walk_at "K"⟩
          rename News _ _ _ _ => Nq
          refine item_nat j Nq (.tail _ (.tail _ (.head _))) (by omega) (by omega) hp0 ?_
          repeat' (first | (k_unfold; (try dsimp only)) | ((fail_if_success (with_reducible show wpAny _ _ (exec (Stmt.While _ _ _ _) _) _ _ _)); (fail_if_success (with_reducible show wpAny _ _ (exec (Stmt.For _ _ _ _ _) _) _ _ _)); (fail_if_success (with_reducible show wpAny _ _ (pyIter _) _ _ _)); (fail_if_success (with_reducible show wpAny _ _ (subscriptTail _ _ (Value.ref _) (Value.int _ _)) _ _ _)); first | walk1 | (dsimp only; walk1)) | (leave1; (try dsimp only)))
          rename News _ _ _ _ => Nq
          refine item_nat (j + (2 + i) - 1) Nq (.tail _ (.tail _ (.head _))) (by omega) (by omega) hp1 ?_
          repeat' (first | (k_unfold; (try dsimp only)) | ((fail_if_success (with_reducible show wpAny _ _ (exec (Stmt.While _ _ _ _) _) _ _ _)); (fail_if_success (with_reducible show wpAny _ _ (exec (Stmt.For _ _ _ _ _) _) _ _ _)); (fail_if_success (with_reducible show wpAny _ _ (pyIter _) _ _ _)); (fail_if_success (with_reducible show wpAny _ _ (subscriptTail _ _ (Value.ref _) (Value.int _ _)) _ _ _)); first | walk1 | (dsimp only; walk1)) | (leave1; (try dsimp only)))
          · have he : ¬ codes.getD j 0 = codes.getD (j + (2 + i) - 1) 0 := fun e => absurd (congrArg (fun z : Nat => (z : Int)) e) ‹((codes.getD j 0 : Nat) : Int) ≠ ((codes.getD (j + (2 + i) - 1) 0 : Nat) : Int)›
            have he2 : codes.getD j 0 / 2 = codes.getD (j + (2 + i) - 1) 0 / 2 := by
              have q := ‹((codes.getD j 0 : Nat) : Int).fdiv 2 = ((codes.getD (j + (2 + i) - 1) 0 : Nat) : Int).fdiv 2›
              rw [fd2, fd2] at q
              exact Int.ofNat.inj q
            have hpr : prL codes j (j + (2 + i) - 1) = 1 := by unfold prL; rw [if_neg he, if_pos he2]
            rw [hpr]
            rename Fr _ _ _ _ => Fq
            rename News _ _ _ _ => Nq
            exact se_intro Fq Nq ⟨(_, _), by walk_at "K"⟩
          · have he : ¬ codes.getD j 0 = codes.getD (j + (2 + i) - 1) 0 := fun e => absurd (congrArg (fun z : Nat => (z : Int)) e) ‹((codes.getD j 0 : Nat) : Int) ≠ ((codes.getD (j + (2 + i) - 1) 0 : Nat) : Int)›
            have he2 : ¬ codes.getD j 0 / 2 = codes.getD (j + (2 + i) - 1) 0 / 2 := by
              intro e
              have q := ‹((codes.getD j 0 : Nat) : Int).fdiv 2 ≠ ((codes.getD (j + (2 + i) - 1) 0 : Nat) : Int).fdiv 2›
              rw [fd2, fd2] at q
              exact q (congrArg (fun z : Nat => (z : Int)) e)
            have hpr : prL codes j (j + (2 + i) - 1) = 2 := by unfold prL; rw [if_neg he, if_neg he2]
            rw [hpr]
            rename Fr _ _ _ _ => Fq
            rename News _ _ _ _ => Nq
            exact se_intro Fq Nq ⟨(_, _), by walk_at "K"⟩
        case ra =>
          intro h3 tk3 u3 F3 N3 ⟨⟨tpr, tst⟩, hC⟩
          have Fc := fr_norm _ F3 hC
          clear F3 hC Fb Nb
          obtain ⟨ra, tra, a1, a2, a3⟩ := hL2.item (i := j + 1) (j := j + (2 + i)) (by omega) (by omega)
          obtain ⟨rb, trb, b1, b2, b3⟩ := hL2.item (i := j) (j := j + (2 + i) - 1) (by omega) (by omega)
          obtain ⟨rc, trc, y1, y2, y3⟩ := hL2.item (i := j + 1) (j := j + (2 + i) - 1) (by omega) (by omega)
          have ma : (adr.map Value.ref)[j + 1]? = some (.ref ra.a) := by rw [List.getElem?_map, a2]; rfl
          have mb9 : (adr.map Value.ref)[j]? = some (.ref rb.a) := by rw [List.getElem?_map, b2]; rfl
          have mc : (adr.map Value.ref)[j + 1]? = some (.ref rc.a) := by rw [List.getElem?_map, y2]; rfl
          dsimp only
          repeat' (first | (k_unfold; (try dsimp only)) | ((fail_if_success (with_reducible show wpAny _ _ (exec (Stmt.While _ _ _ _) _) _ _ _)); (fail_if_success (with_reducible show wpAny _ _ (exec (Stmt.For _ _ _ _ _) _) _ _ _)); (fail_if_success (with_reducible show wpAny _ _ (pyIter _) _ _ _)); (fail_if_success (with_reducible show wpAny _ _ (subscriptTail _ _ (Value.ref _) (Value.int _ _)) _ _ _)); first | walk1 | (dsimp only; walk1)) | (leave1; (try dsimp only)))
          rename News _ _ _ _ => Nq
          refine item_nat (j + 1) Nq (.head _) (by omega) (by omega) ma ?_
          repeat' (first | (k_unfold; (try dsimp only)) | ((fail_if_success (with_reducible show wpAny _ _ (exec (Stmt.While _ _ _ _) _) _ _ _)); (fail_if_success (with_reducible show wpAny _ _ (exec (Stmt.For _ _ _ _ _) _) _ _ _)); (fail_if_success (with_reducible show wpAny _ _ (pyIter _) _ _ _)); (fail_if_success (with_reducible show wpAny _ _ (subscriptTail _ _ (Value.ref _) (Value.int _ _)) _ _ _)); first | walk1 | (dsimp only; walk1)) | (leave1; (try dsimp only)))
          rename News _ _ _ _ => Nq
          refine item_nat (j + (2 + i)) Nq (List.mem_append_left _ (mem_row a1)) (by omega) (by omega) a3 ?_
          repeat' (first | (k_unfold; (try dsimp only)) | ((fail_if_success (with_reducible show wpAny _ _ (exec (Stmt.While _ _ _ _) _) _ _ _)); (fail_if_success (with_reducible show wpAny _ _ (exec (Stmt.For _ _ _ _ _) _) _ _ _)); (fail_if_success (with_reducible show wpAny _ _ (pyIter _) _ _ _)); (fail_if_success (with_reducible show wpAny _ _ (subscriptTail _ _ (Value.ref _) (Value.int _ _)) _ _ _)); first | walk1 | (dsimp only; walk1)) | (leave1; (try dsimp only)))
          rename News _ _ _ _ => Nq
          refine item_nat (j) Nq (.head _) (by omega) (by omega) mb9 ?_
          repeat' (first | (k_unfold; (try dsimp only)) | ((fail_if_success (with_reducible show wpAny _ _ (exec (Stmt.While _ _ _ _) _) _ _ _)); (fail_if_success (with_reducible show wpAny _ _ (exec (Stmt.For _ _ _ _ _) _) _ _ _)); (fail_if_success (with_reducible show wpAny _ _ (pyIter _) _ _ _)); (fail_if_success (with_reducible show wpAny _ _ (subscriptTail _ _ (Value.ref _) (Value.int _ _)) _ _ _)); first | walk1 | (dsimp only; walk1)) | (leave1; (try dsimp only)))
          rename News _ _ _ _ => Nq
          refine item_nat (j + (2 + i) - 1) Nq (List.mem_append_left _ (mem_row b1)) (by omega) (by omega) b3 ?_
          repeat' (first | (k_unfold; (try dsimp only)) | ((fail_if_success (with_reducible show wpAny _ _ (exec (Stmt.While _ _ _ _) _) _ _ _)); (fail_if_success (with_reducible show wpAny _ _ (exec (Stmt.For _ _ _ _ _) _) _ _ _)); (fail_if_success (with_reducible show wpAny _ _ (pyIter _) _ _ _)); (fail_if_success (with_reducible show wpAny _ _ (subscriptTail _ _ (Value.ref _) (Value.int _ _)) _ _ _)); first | walk1 | (dsimp only; walk1)) | (leave1; (try dsimp only)))
          rename News _ _ _ _ => Nq
          refine item_nat (j + 1) Nq (.head _) (by omega) (by omega) mc ?_
          repeat' (first | (k_unfold; (try dsimp only)) | ((fail_if_success (with_reducible show wpAny _ _ (exec (Stmt.While _ _ _ _) _) _ _ _)); (fail_if_success (with_reducible show wpAny _ _ (exec (Stmt.For _ _ _ _ _) _) _ _ _)); (fail_if_success (with_reducible show wpAny _ _ (pyIter _) _ _ _)); (fail_if_success (with_reducible show wpAny _ _ (subscriptTail _ _ (Value.ref _) (Value.int _ _)) _ _ _)); first | walk1 | (dsimp only; walk1)) | (leave1; (try dsimp only)))
          rename News _ _ _ _ => Nq
          refine item_nat (j + (2 + i) - 1) Nq (List.mem_append_left _ (mem_row y1)) (by omega) (by omega) y3 ?_
          repeat' (first | (k_unfold; (try dsimp only)) | ((fail_if_success (with_reducible show wpAny _ _ (exec (Stmt.While _ _ _ _) _) _ _ _)); (fail_if_success (with_reducible show wpAny _ _ (exec (Stmt.For _ _ _ _ _) _) _ _ _)); (fail_if_success (with_reducible show wpAny _ _ (pyIter _) _ _ _)); (fail_if_success (with_reducible show wpAny _ _ (subscriptTail _ _ (Value.ref _) (Value.int _ _)) _ _ _)); first | walk1 | (dsimp only; walk1)) | (leave1; (try dsimp only)))
          rename News _ _ _ _ => Nq
          refine item_nat (j) Nq (.head _) (by omega) (by omega) mb9 ?_
          repeat' (first | (k_unfold; (try dsimp only)) | ((fail_if_success (with_reducible show wpAny _ _ (exec (Stmt.While _ _ _ _) _) _ _ _)); (fail_if_success (with_reducible show wpAny _ _ (exec (Stmt.For _ _ _ _ _) _) _ _ _)); (fail_if_success (with_reducible show wpAny _ _ (pyIter _) _ _ _)); (fail_if_success (with_reducible show wpAny _ _ (subscriptTail _ _ (Value.ref _) (Value.int _ _)) _ _ _)); first | walk1 | (dsimp only; walk1)) | (leave1; (try dsimp only)))
          rename Fr _ _ _ _ => Fq
          rename News _ _ _ _ => Nq
          have Nq' : News g' L' _ (LedR D _ (L' + 1, oc) (C, listOf cv.toArray nc) (rest ++ own ++ own2) adr c2) := kst_newsOf Nq led_app
          dsimp only
          refine row_set (j := j + (2 + i)) Fq Nq' hL2 b1 ?off hpwR (by omega) (by omega) (by omega) ?_
          case off =>
            intro a ha
            obtain ⟨f1, f2, f3, f4⟩ := hoffR a ha
            refine ⟨f1, f2, f3, fun p hp => ?_⟩
            rcases List.mem_append.mp hp with hp | hp
            · rcases List.mem_append.mp hp with hp | hp
              · exact f4 p hp
              · exact hoff p hp a (adr_mem hL0 ha)
            · exact hoff2 p hp a (adr_mem hL ha)
          intro h8 F8 N8
          repeat' (first | (k_unfold; (try dsimp only)) | ((fail_if_success (with_reducible show wpAny _ _ (exec (Stmt.While _ _ _ _) _) _ _ _)); (fail_if_success (with_reducible show wpAny _ _ (exec (Stmt.For _ _ _ _ _) _) _ _ _)); (fail_if_success (with_reducible show wpAny _ _ (pyIter _) _ _ _)); (fail_if_success (with_reducible show wpAny _ _ (subscriptTail _ _ (Value.ref _) (Value.int _ _)) _ _ _)); first | walk1 | (dsimp only; walk1)) | (leave1; (try dsimp only)))
          rename Fr _ _ _ _ => Fq
          rename News _ _ _ _ => Nq
          refine te_next (c2.set j _) ?_ Fq Nq (by walk_at "K") (led_mono fun p hp => List.mem_append_left _ hp) (fun p hp => led_rest p (List.mem_append_right _ hp))
          rw [List.range_succ, List.foldl_append]
          exact hL2.set b1 _ _
      case done2 =>
        rintro c2 u2 h9 tk9 hL2 Fa Na
        clear F9 N9 N9' R9
        repeat' (first | (k_unfold; (try dsimp only)) | ((fail_if_success (with_reducible show wpAny _ _ (exec (Stmt.While _ _ _ _) _) _ _ _)); (fail_if_success (with_reducible show wpAny _ _ (exec (Stmt.For _ _ _ _ _) _) _ _ _)); (fail_if_success (with_reducible show wpAny _ _ (pyIter _) _ _ _)); first | walk1 | (dsimp only; walk1)) | (leave1; (try dsimp only)))
        rename Fr _ _ _ _ => Fq
        rename News _ _ _ _ => Nq
        refine te_next c2 ?_ Fq Nq (by walk_at "K") (led_mono fun p hp => List.mem_append_left _ hp) (fun p hp => led_rest p (List.mem_append_right _ hp))
        rw [List.range'_1_concat, List.foldl_append, hM]
        show LsAt 7 adr (lsO codes 6 M (2 + i)) c2
        unfold lsO
        rw [show 6 - (2 + i) + 1 = 5 - i from by omega]
        exact hL2
    case done =>
      rintro c u h7 tk7 hL F8 N8
      clear F5 N5 R7
      dsimp only
      obtain ⟨ra, tra, a1, a2, a3⟩ := hL.item (i := 0) (j := 6) (by omega) (by omega)
      have ma : (adr.map Value.ref)[0]? = some (.ref ra.a) := by rw [List.getElem?_map, a2]; rfl
      repeat' (first | (k_unfold; (try dsimp only)) | ((fail_if_success (with_reducible show wpAny _ _ (exec (Stmt.While _ _ _ _) _) _ _ _)); (fail_if_success (with_reducible show wpAny _ _ (exec (Stmt.For _ _ _ _ _) _) _ _ _)); (fail_if_success (with_reducible show wpAny _ _ (pyIter _) _ _ _)); (fail_if_success (with_reducible show wpAny _ _ (subscriptTail _ _ (Value.ref _) (Value.int _ _)) _ _ _)); first | walk1 | (dsimp only; walk1)) | (leave1; (try dsimp only)))
      rename News _ _ _ _ => Nq
      refine item_nat 0 Nq (.head _) (by omega) (by omega) ma ?_
      repeat' (first | (k_unfold; (try dsimp only)) | ((fail_if_success (with_reducible show wpAny _ _ (exec (Stmt.While _ _ _ _) _) _ _ _)); (fail_if_success (with_reducible show wpAny _ _ (exec (Stmt.For _ _ _ _ _) _) _ _ _)); (fail_if_success (with_reducible show wpAny _ _ (pyIter _) _ _ _)); (fail_if_success (with_reducible show wpAny _ _ (subscriptTail _ _ (Value.ref _) (Value.int _ _)) _ _ _)); first | walk1 | (dsimp only; walk1)) | (leave1; (try dsimp only)))
      rename News _ _ _ _ => Nq
      refine item_nat 6 Nq (mem_row a1) (by omega) (by omega) a3 ?_
      repeat' (first | (k_unfold; (try dsimp only)) | ((fail_if_success (with_reducible show wpAny _ _ (exec (Stmt.While _ _ _ _) _) _ _ _)); (fail_if_success (with_reducible show wpAny _ _ (exec (Stmt.For _ _ _ _ _) _) _ _ _)); (fail_if_success (with_reducible show wpAny _ _ (pyIter _) _ _ _)); first | walk1 | (dsimp only; walk1)) | (leave1; (try dsimp only)))
      have hc6 : codes.length = 6 := by have := hi.length; simp at this; omega
      refine cb_retI (x := leastL codes) hret ?_ ‹Fr h₀ L _ m› (kst_newsOf ‹News h₀ L _ _› ?_)
      · unfold leastL gM
        rw [hc6]
      · intro p hp
        rcases List.mem_cons.mp hp with rfl | hp
        · exact .tail _ (.tail _ (.head _))
        · exact led_rest p hp
set_option maxHeartbeats 4000000 in
theorem all9 (q9 : Vt9) : Sp9 q9 := by
  refine @eps_all Vt9 ne9 Sp9 ?_ q9
  have h := core9
  unfold w p loose mean mg mb rest C cv nc codes dp un gd cn cs a0 ccd cl outr A₀ base h₀ L m s Q E at h
  exact h
end least_ct_e
set_option maxHeartbeats 4000000 in
theorem least_ct (w : World) (p : Program) (loose : List Str) (mean : ExcName → Option Value) (mg mb : Str → Option Value) (rest : CbLed) (C : Addr) (cv : List Value) (nc : Nat) (codes : List Nat) (hi : IntsAre cv (codes.map fun (c : Nat) => (c : Int))) (hN : cv.length = 6) : Ct w p loose mean mg mb 8 131 ((C, listOf cv.toArray nc) :: rest) [.ref C] (fun t => .int (leastL codes) t) := by
  intro dp un gd cn cs a0 ccd cl outr A₀ base h₀ L m s Q E
  have h := least_ct_e.all9 (w, p, loose, mean, mg, mb, rest, C, cv, nc, codes, dp, un, gd, cn, cs, a0, ccd, cl, outr, A₀, base, h₀, L, m, s, Q, E)
  dsimp only [least_ct_e.Sp9, least_ct_e.St9] at h
  exact h hi hN
end Mine
end
section
open PySem PySem.W PyProof.Rows PySem.Calls PySem.Spec
namespace Mine
namespace least_ct5_e
def St9 (w : World) (p : Program) (loose : List Str) (mean : ExcName → Option Value) (mg : Str → Option Value) (mb : Str → Option Value) (rest : CbLed) (C : Addr) (cv : List Value) (nc : Nat) (codes : List Nat) (dp : Nat) (un : Nat) (gd : Option (List Code)) (cn : Str) (cs : Scope) (a0 : Addr) (ccd : Value) (cl : List (Str × Addr)) (outr : List Env) (A₀ : Around) (base : Heap) (h₀ : Heap) (L : Addr) (m : Str → Option Value) (s : Shared) (Q : Value → Shared → Prop) (E : Value → Shared → Prop) : Prop :=
  (IntsAre cv (codes.map fun (c : Nat) => (c : Int))) → (cv.length = 5) → CtB w p loose mean mg mb 8 131 ((C, listOf cv.toArray nc) :: rest) [.ref C] (fun t => .int (leastL codes) t) dp un gd cn cs a0 ccd cl outr A₀ base h₀ L m s Q E
abbrev Vt9 : Type := World × Program × (List Str) × (ExcName → Option Value) × (Str → Option Value) × (Str → Option Value) × CbLed × Addr × (List Value) × Nat × (List Nat) × Nat × Nat × (Option (List Code)) × Str × Scope × Addr × Value × (List (Str × Addr)) × (List Env) × Around × Heap × Heap × Addr × (Str → Option Value) × Shared × (Value → Shared → Prop) × (Value → Shared → Prop)
theorem ne9 : Nonempty Vt9 := by
  obtain ⟨w0⟩ := neW
  exact ⟨w0, default, [], (fun _ => none), (fun _ => none), (fun _ => none), [], 0, [], 0, [], 0, 0, none, default, default, 0, .none, [], [], callerA, {}, {}, 0, (fun _ => none), {}, (fun _ _ => True), (fun _ _ => True)⟩
def Sp9 (t : Vt9) : Prop := St9 (t.1) (t.2.1) (t.2.2.1) (t.2.2.2.1) (t.2.2.2.2.1) (t.2.2.2.2.2.1) (t.2.2.2.2.2.2.1) (t.2.2.2.2.2.2.2.1) (t.2.2.2.2.2.2.2.2.1) (t.2.2.2.2.2.2.2.2.2.1) (t.2.2.2.2.2.2.2.2.2.2.1) (t.2.2.2.2.2.2.2.2.2.2.2.1) (t.2.2.2.2.2.2.2.2.2.2.2.2.1) (t.2.2.2.2.2.2.2.2.2.2.2.2.2.1) (t.2.2.2.2.2.2.2.2.2.2.2.2.2.2.1) (t.2.2.2.2.2.2.2.2.2.2.2.2.2.2.2.1) (t.2.2.2.2.2.2.2.2.2.2.2.2.2.2.2.2.1) (t.2.2.2.2.2.2.2.2.2.2.2.2.2.2.2.2.2.1) (t.2.2.2.2.2.2.2.2.2.2.2.2.2.2.2.2.2.2.1) (t.2.2.2.2.2.2.2.2.2.2.2.2.2.2.2.2.2.2.2.1) (t.2.2.2.2.2.2.2.2.2.2.2.2.2.2.2.2.2.2.2.2.1) (t.2.2.2.2.2.2.2.2.2.2.2.2.2.2.2.2.2.2.2.2.2.1) (t.2.2.2.2.2.2.2.2.2.2.2.2.2.2.2.2.2.2.2.2.2.2.1) (t.2.2.2.2.2.2.2.2.2.2.2.2.2.2.2.2.2.2.2.2.2.2.2.1) (t.2.2.2.2.2.2.2.2.2.2.2.2.2.2.2.2.2.2.2.2.2.2.2.2.1) (t.2.2.2.2.2.2.2.2.2.2.2.2.2.2.2.2.2.2.2.2.2.2.2.2.2.1) (t.2.2.2.2.2.2.2.2.2.2.2.2.2.2.2.2.2.2.2.2.2.2.2.2.2.2.1) (t.2.2.2.2.2.2.2.2.2.2.2.2.2.2.2.2.2.2.2.2.2.2.2.2.2.2.2)
noncomputable def c9 : Vt9 := @Classical.epsilon Vt9 ne9 fun t => ¬ Sp9 t
@[irreducible] noncomputable def w : World := c9.1
@[irreducible] noncomputable def p : Program := c9.2.1
@[irreducible] noncomputable def loose : List Str := c9.2.2.1
@[irreducible] noncomputable def mean : ExcName → Option Value := c9.2.2.2.1
@[irreducible] noncomputable def mg : Str → Option Value := c9.2.2.2.2.1
@[irreducible] noncomputable def mb : Str → Option Value := c9.2.2.2.2.2.1
@[irreducible] noncomputable def rest : CbLed := c9.2.2.2.2.2.2.1
@[irreducible] noncomputable def C : Addr := c9.2.2.2.2.2.2.2.1
@[irreducible] noncomputable def cv : List Value := c9.2.2.2.2.2.2.2.2.1
@[irreducible] noncomputable def nc : Nat := c9.2.2.2.2.2.2.2.2.2.1
@[irreducible] noncomputable def codes : List Nat := c9.2.2.2.2.2.2.2.2.2.2.1
@[irreducible] noncomputable def dp : Nat := c9.2.2.2.2.2.2.2.2.2.2.2.1
@[irreducible] noncomputable def un : Nat := c9.2.2.2.2.2.2.2.2.2.2.2.2.1
@[irreducible] noncomputable def gd : Option (List Code) := c9.2.2.2.2.2.2.2.2.2.2.2.2.2.1
@[irreducible] noncomputable def cn : Str := c9.2.2.2.2.2.2.2.2.2.2.2.2.2.2.1
@[irreducible] noncomputable def cs : Scope := c9.2.2.2.2.2.2.2.2.2.2.2.2.2.2.2.1
@[irreducible] noncomputable def a0 : Addr := c9.2.2.2.2.2.2.2.2.2.2.2.2.2.2.2.2.1
@[irreducible] noncomputable def ccd : Value := c9.2.2.2.2.2.2.2.2.2.2.2.2.2.2.2.2.2.1
@[irreducible] noncomputable def cl : List (Str × Addr) := c9.2.2.2.2.2.2.2.2.2.2.2.2.2.2.2.2.2.2.1
@[irreducible] noncomputable def outr : List Env := c9.2.2.2.2.2.2.2.2.2.2.2.2.2.2.2.2.2.2.2.1
@[irreducible] noncomputable def A₀ : Around := c9.2.2.2.2.2.2.2.2.2.2.2.2.2.2.2.2.2.2.2.2.1
@[irreducible] noncomputable def base : Heap := c9.2.2.2.2.2.2.2.2.2.2.2.2.2.2.2.2.2.2.2.2.2.1
@[irreducible] noncomputable def h₀ : Heap := c9.2.2.2.2.2.2.2.2.2.2.2.2.2.2.2.2.2.2.2.2.2.2.1
@[irreducible] noncomputable def L : Addr := c9.2.2.2.2.2.2.2.2.2.2.2.2.2.2.2.2.2.2.2.2.2.2.2.1
@[irreducible] noncomputable def m : Str → Option Value := c9.2.2.2.2.2.2.2.2.2.2.2.2.2.2.2.2.2.2.2.2.2.2.2.2.1
@[irreducible] noncomputable def s : Shared := c9.2.2.2.2.2.2.2.2.2.2.2.2.2.2.2.2.2.2.2.2.2.2.2.2.2.1
@[irreducible] noncomputable def Q : Value → Shared → Prop := c9.2.2.2.2.2.2.2.2.2.2.2.2.2.2.2.2.2.2.2.2.2.2.2.2.2.2.1
@[irreducible] noncomputable def E : Value → Shared → Prop := c9.2.2.2.2.2.2.2.2.2.2.2.2.2.2.2.2.2.2.2.2.2.2.2.2.2.2.2
set_option maxRecDepth 100000 in
set_option maxHeartbeats 8000000 in
theorem core9 : St9 w p loose mean mg mb rest C cv nc codes dp un gd cn cs a0 ccd cl outr A₀ base h₀ L m s Q E := by
  unfold St9 CtB Ret P0
  k_fill
  intro hi hN hB hF hX hN' hT hcs hdp hun hret
  refine wpAny_call ?_
  refine' code_defC ?k1 ?k2 ?k3 ?k4 ?k5 ?kA ?kF ?kK ?k6 ?k7 ?k8 ?k9 ?kB ?kD ?_ ?c2 ?c3 ?c4
  case kA => exact rfl
  case kF => exact rfl
  case kK => assumption
  case k1 => k_asm
  case k2 => k_asm
  case k3 => k_asm
  case k4 => k_asm
  case k5 => k_asm
  case k6 => k_is
  case k7 => k_is
  case k8 => ktr_room
  case k9 => exact BindsTo.of_eq rfl
  case kB => exact rfl
  case kD => decide +kernel
  case c2 => exact rfl
  case c3 => exact rfl
  case c4 => exact rfl
  k_whole
  intro g' L' h' tk' cells' FG' F' N' Y' B' X' T' l1
  try k_lt l1
  k_cells Y'
  rename _ = Data.cell _ => d1'
  try simp only [List.cons_append, List.nil_append] at N'
  try dsimp only
  try k_lift B'
  try k_fold
  obtain ⟨u0, F1⟩ : ∃ u0, Fr g' L' h' (kstB u0 [(Str.ofString "codes", Value.ref C)]) := ⟨_, fr_norm [(Str.ofString "codes", Value.ref C)] F' (by intro p hp; rw [List.mem_singleton.mp hp]; rfl)⟩
  clear F'
  repeat' (first | (k_unfold; (try dsimp only)) | ((fail_if_success (with_reducible show wpAny _ _ (exec (Stmt.While _ _ _ _) _) _ _ _)); (fail_if_success (with_reducible show wpAny _ _ (exec (Stmt.For _ _ _ _ _) _) _ _ _)); (fail_if_success (with_reducible show wpAny _ _ (pyIter _) _ _ _)); first | walk1 | (dsimp only; walk1)) | (leave1; (try dsimp only)))
  rename News _ _ _ _ => N1
  refine len_at N1 (by k_mem) (by omega) ?_
  rw [hN]
  dsimp only
  have off1 : ∀ p ∈ (C, listOf cv.toArray nc) :: rest, p.1 ≠ L' + 1 := by
    intro p hp
    rcases List.mem_cons.mp hp with rfl | hp
    · exact Nat.ne_of_lt (Nat.lt_succ_of_lt l1.1)
    · exact Nat.ne_of_lt (Nat.lt_succ_of_lt (allLt_all l1.2 p hp))
  refine storeX_C (c := L' + 1) F1 N1 rfl (UpdF.head off1) d1' ?_
  intro h2 oc F2 N2 hoc
  clear F1 N1
  dsimp only at N2 ⊢
  repeat' (first | (k_unfold; (try dsimp only)) | ((fail_if_success (with_reducible show wpAny _ _ (exec (Stmt.While _ _ _ _) _) _ _ _)); (fail_if_success (with_reducible show wpAny _ _ (exec (Stmt.For _ _ _ _ _) _) _ _ _)); (fail_if_success (with_reducible show wpAny _ _ (pyIter _) _ _ _)); (fail_if_success (with_reducible show wpAny _ _ (exec (Stmt.Assign _ _ (Pos.mk 118 _ _ _)) _) _ _ _)); first | walk1 | (dsimp only; walk1)) | (leave1; (try dsimp only)))
  k_dflt (refine LCg.Assign_ListComp_U (F₀ := by k_asm) (by rfl) (by with_unfolding_all rfl) (by with_unfolding_all rfl) (by decide) (by rfl) (by decide) (by rfl) (by rfl) (by rfl) ?_)
  repeat (first | (k_unfold; (try dsimp only)) | ((fail_if_success (with_reducible show LCg.CompSrc _ _ _ _ _ _ _ _ _ _ _ _ _ _)); first | walk1 | (dsimp only; walk1)))
  k_dflt (refine LCg.CompSrc.range (by rfl) (by k_asm) (by k_asm) (by assumption) (by first | decide | rfl) (by first | rfl | decide) (by first | size_fits | exact Nat.le_of_ble_eq_true rfl) ?_)
  intro gg
  refine comp_ind (fun i ys nw => ∃ tl, nw = (L' + 1, oc) :: (C, listOf cv.toArray nc) :: tl ∧ RowsOk 6 [L' + 1, C] rest i ys tl) 6 ?step ?fin ⟨rest, rfl, RowsOk.nil⟩
  case step =>
    rintro i ys nw hi9 ⟨tl, rfl, hR⟩ v I oI C' oC D m₂ h tk E' hv hC hx F3 N3 off ne
    repeat' (first | (k_unfold; (try dsimp only)) | ((fail_if_success (with_reducible show wpAny _ _ (exec (Stmt.While _ _ _ _) _) _ _ _)); (fail_if_success (with_reducible show wpAny _ _ (exec (Stmt.For _ _ _ _ _) _) _ _ _)); (fail_if_success (with_reducible show wpAny _ _ (pyIter _) _ _ _)); first | walk1 | (dsimp only; walk1)) | (leave1; (try dsimp only)))
    rename IntsAre _ _ => hI8
    rename Fr _ _ _ _ => F5
    rename News _ _ _ _ => N5
    rename _ ∧ _ ∧ _ ∧ _ ∧ _ ∧ LCg.Off1 _ _ => o5
    refine LCg.CompEnd.intro F5 N5 ((L' + 1, oc) :: (C, listOf cv.toArray nc) :: (_, _) :: tl) ?sub ⟨off.1, off.2.1, ⟨Ne.symm o5.1, Ne.symm o5.2.1, Ne.symm o5.2.2.1⟩, off.2.2⟩ trivial ⟨_, rfl, hR.snoc hI8 (off1_all o5.2.2.2.2.2) ?ex⟩
    case sub =>
      intro p hp
      simp only [List.mem_cons] at hp ⊢
      rcases hp with rfl | rfl | rfl | rfl | rfl | rfl | hp
      · exact .inr (.inl rfl)
      · exact .inr (.inr (.inl rfl))
      · exact .inr (.inr (.inr (.inl rfl)))
      · exact .inr (.inr (.inr (.inr (.inl rfl))))
      · exact .inr (.inr (.inr (.inr (.inr (.inl rfl)))))
      · exact .inl rfl
      · exact .inr (.inr (.inr (.inr (.inr (.inr hp)))))
    case ex =>
      intro a ha
      rcases List.mem_cons.mp ha with rfl | ha
      · exact o5.2.2.2.1
      · rw [List.mem_singleton.mp ha]; exact o5.2.2.2.2.1
  case fin =>
    rintro ys nw ⟨tl, rfl, rs, hlen, rfl, rfl, hz, hpw, hrest, hex⟩
    intro D h tk F3 N3 off
    obtain ⟨u1, F4⟩ : ∃ u1, Fr g' L' h (kstB u1 [(Str.ofString "least", Value.ref D), (Str.ofString "codes", Value.ref C)]) := ⟨_, fr_norm [(Str.ofString "least", Value.ref D), (Str.ofString "codes", Value.ref C)] F3 (by walk_at "K")⟩
    clear F3
    dsimp only
    have hlR : (rs.reverse.map Row.a).length = 6 := by simp [hlen]
    have hoffR : ∀ a ∈ rs.reverse.map Row.a, D ≠ a ∧ L' + 1 ≠ a ∧ C ≠ a ∧ ∀ p ∈ rest, p.1 ≠ a := by
      intro a ha
      obtain ⟨r, hr, rfl⟩ := List.mem_map.mp ha
      rw [List.mem_reverse] at hr
      exact ⟨Ne.symm (off1_all off.2.2 r.ent (List.mem_append_left _ (List.mem_map_of_mem hr))), hex r hr _ (.head _), hex r hr _ (.tail _ (.head _)), hrest r hr⟩
    have hpwR : (rs.reverse.map Row.a).Pairwise (· ≠ ·) := by
      rw [List.pairwise_map, List.pairwise_reverse]
      exact hpw.imp fun h => Ne.symm h
    have hoD : ∀ p ∈ rest, p.1 ≠ D := fun p hp => off1_all off.2.2 p (List.mem_append_right _ hp)
    have hoE : L' + 1 ≠ D ∧ C ≠ D := ⟨off.1, off.2.1⟩
    have hL0 : LsAt 6 (rs.reverse.map Row.a) (List.replicate 6 (List.replicate 6 0)) rs.reverse := ⟨rfl, by
      rw [List.eq_replicate_iff]
      refine ⟨by simp [hlen], fun b hb => ?_⟩
      obtain ⟨r, hr, rfl⟩ := List.mem_map.mp hb
      exact hz r (List.mem_reverse.mp hr), fun r hr => by
      have z := congrArg List.length (hz r (List.mem_reverse.mp hr))
      simpa using z⟩
    have er : rs.reverse.map (fun r => Value.ref r.a) = (rs.reverse.map Row.a).map Value.ref := by rw [List.map_map]; rfl
    rw [er] at N3
    have N4 : News g' L' h (LedR D _ (L' + 1, oc) (C, listOf cv.toArray nc) rest (rs.reverse.map Row.a) rs.reverse) := kst_newsOf N3 (by
      intro p hp
      simp only [LedR, List.mem_cons, List.mem_append, List.mem_map, List.mem_reverse] at hp ⊢
      exact hp)
    clear N3 er
    generalize rs.reverse.map Row.a = adr at *
    generalize rs.reverse = R at *
    clear hz hpw hrest hex
    rename IsRange _ _ _ _ _ _ _ _ => R0
    clear R0
    repeat' (first | (k_unfold; (try dsimp only)) | ((fail_if_success (with_reducible show wpAny _ _ (exec (Stmt.While _ _ _ _) _) _ _ _)); (fail_if_success (with_reducible show wpAny _ _ (exec (Stmt.For _ _ _ _ _) _) _ _ _)); (fail_if_success (with_reducible show wpAny _ _ (pyIter _) _ _ _)); first | walk1 | (dsimp only; walk1)) | (leave1; (try dsimp only)))
    walk1
    repeat' (first | (k_unfold; (try dsimp only)) | ((fail_if_success (with_reducible show wpAny _ _ (exec (Stmt.While _ _ _ _) _) _ _ _)); (fail_if_success (with_reducible show wpAny _ _ (exec (Stmt.For _ _ _ _ _) _) _ _ _)); (fail_if_success (with_reducible show wpAny _ _ (pyIter _) _ _ _)); first | walk1 | (dsimp only; walk1)) | (leave1; (try dsimp only)))
    rename IsRange _ _ _ _ _ _ _ _ => R7
    rename Fr _ _ _ _ => F5
    rename News _ _ _ _ => N5
    refine rng (σ := List Row) (n := 4) (fun c => LedR D _ (L' + 1, oc) (C, listOf cv.toArray nc) rest adr c) (fun c => [(Str.ofString "least", Value.ref D), (Str.ofString "codes", Value.ref C)]) (fun i c => LsAt 6 adr ((List.range' 2 i).foldl (lsO codes 5) (List.replicate 6 (List.replicate 6 0))) c) R rfl R7 (by first | rfl | decide) (by first | rfl | decide) F5 N5 (by walk_at "K") hL0 ?hadr ?turn ?done
    case hadr =>
      intro i c hc
      simp only [LedR, List.map_cons, List.map_append, List.map_map]
      have e1 : c.map ((fun x => x.fst) ∘ Row.ent) = adr := hc.adr
      have e2 : R.map ((fun x => x.fst) ∘ Row.ent) = adr := hL0.adr
      rw [e1, e2]
    case turn =>
      rintro i c u t h7 tk7 own hi9 hoff hL F8 N8
      clear F5 N5 R7
      simp only [Int.mul_one] at F8
      repeat' (first | (k_unfold; (try dsimp only)) | ((fail_if_success (with_reducible show wpAny _ _ (exec (Stmt.While _ _ _ _) _) _ _ _)); (fail_if_success (with_reducible show wpAny _ _ (exec (Stmt.For _ _ _ _ _) _) _ _ _)); (fail_if_success (with_reducible show wpAny _ _ (pyIter _) _ _ _)); first | walk1 | (dsimp only; walk1)) | (leave1; (try dsimp only)))
      walk1
      repeat' (first | (k_unfold; (try dsimp only)) | ((fail_if_success (with_reducible show wpAny _ _ (exec (Stmt.While _ _ _ _) _) _ _ _)); (fail_if_success (with_reducible show wpAny _ _ (exec (Stmt.For _ _ _ _ _) _) _ _ _)); (fail_if_success (with_reducible show wpAny _ _ (pyIter _) _ _ _)); first | walk1 | (dsimp only; walk1)) | (leave1; (try dsimp only)))
      rename IsRange _ _ _ _ _ _ _ _ => R9
      rename Fr _ _ _ _ => F9
      rename News _ _ _ _ => N9
      generalize hM : (List.range' 2 i).foldl (lsO codes 5) (List.replicate 6 (List.replicate 6 0)) = M at hL
      have N9' : News g' L' _ (LedR D _ (L' + 1, oc) (C, listOf cv.toArray nc) (rest ++ own) adr c) := kst_newsOf N9 led_app
      refine rng (σ := List Row) (n := 4 - i) (fun c => LedR D _ (L' + 1, oc) (C, listOf cv.toArray nc) (rest ++ own) adr c) (fun c => [(Str.ofString "length", Value.int (2 + (i : Int)) t), (Str.ofString "least", Value.ref D), (Str.ofString "codes", Value.ref C)]) (fun j c => LsAt 6 adr ((List.range j).foldl (lsI codes (2 + i)) M) c) c rfl R9 (small_one (by omega) (by omega) (by omega) (by omega)) (by rw [rangeSize_nat]; omega) F9 N9' (by walk_at "K") hL ?hadr2 ?turn2 ?done2
      case hadr2 =>
        intro i c3 hc
        simp only [LedR, List.map_cons, List.map_append, List.map_map]
        have e1 : c3.map ((fun x => x.fst) ∘ Row.ent) = adr := hc.adr
        have e2 : c.map ((fun x => x.fst) ∘ Row.ent) = adr := hL.adr
        rw [e1, e2]
      case turn2 =>
        rintro j c2 u2 t2 h9 tk9 own2 hj hoff2 hL2 Fa Na
        clear F9 N9 N9' R9
        simp only [Int.zero_add, Int.mul_one] at Fa
        repeat' (first | (k_unfold; (try dsimp only)) | ((fail_if_success (with_reducible show wpAny _ _ (exec (Stmt.While _ _ _ _) _) _ _ _)); (fail_if_success (with_reducible show wpAny _ _ (exec (Stmt.For _ _ _ _ _) _) _ _ _)); (fail_if_success (with_reducible show wpAny _ _ (pyIter _) _ _ _)); (fail_if_success (with_reducible show wpAny _ _ (exec (Stmt.If _ _ _ (Pos.mk 123 _ _ _)) _) _ _ _)); (fail_if_success (with_reducible show wpAny _ _ (subscriptTail _ _ (Value.ref _) (Value.int _ _)) _ _ _)); first | walk1 | (dsimp only; walk1)) | (leave1; (try dsimp only)))
        rename Fr _ _ _ _ => Fb
        rename News _ _ _ _ => Nb
        have hc6 : codes.length = 5 := by have := hi.length; simp at this; omega
        obtain ⟨tp0, hp0⟩ := cod_get hi (j := j) (by omega)
        obtain ⟨tp1, hp1⟩ := cod_get hi (j := j + (2 + i) - 1) (by omega)
        refine cut_se Fb Nb (fun m' => ∃ c : Tok × Tok, ∀ p ∈ [(Str.ofString "price", Value.int (prL codes j (j + (2 + i) - 1)) c.1), (Str.ofString "stop", Value.int ((j : Int) + (2 + (i : Int))) c.2), (Str.ofString "start", Value.int (j : Int) t2), (Str.ofString "length", Value.int (2 + (i : Int)) t), (Str.ofString "least", Value.ref D), (Str.ofString "codes", Value.ref C)], m' p.1 = some p.2) ?sa ?ra
        case sa =>
          repeat' (first | (k_unfold; (try dsimp only)) | ((fail_if_success (with_reducible show wpAny _ _ (exec (Stmt.While _ _ _ _) _) _ _ _)); (fail_if_success (with_reducible show wpAny _ _ (exec (Stmt.For _ _ _ _ _) _) _ _ _)); (fail_if_success (with_reducible show wpAny _ _ (pyIter _) _ _ _)); (fail_if_success (with_reducible show wpAny _ _ (subscriptTail _ _ (Value.ref _) (Value.int _ _)) _ _ _)); first | walk1 | (dsimp only; walk1)) | (leave1; (try dsimp only)))
          rename News _ _ _ _ => Nq
          refine item_nat j Nq (.tail _ (.tail _ (.head _))) (by omega) (by omega) hp0 ?_
          repeat' (first | (k_unfold; (try dsimp only)) | ((fail_if_success (with_reducible show wpAny _ _ (exec (Stmt.While _ _ _ _) _) _ _ _)); (fail_if_success (with_reducible show wpAny _ _ (exec (Stmt.For _ _ _ _ _) _) _ _ _)); (fail_if_success (with_reducible show wpAny _ _ (pyIter _) _ _ _)); (fail_if_success (with_reducible show wpAny _ _ (subscriptTail _ _ (Value.ref _) (Value.int _ _)) _ _ _)); first | walk1 | (dsimp only; walk1)) | (leave1; (try dsimp only)))
          rename News _ _ _ _ => Nq
          refine item_nat (j + (2 + i) - 1) Nq (.tail _ (.tail _ (.head _))) (by omega) (by omega) hp1 ?_
          repeat' (first | (k_unfold; (try dsimp only)) | ((fail_if_success (with_reducible show wpAny _ _ (exec (Stmt.While _ _ _ _) _) _ _ _)); (fail_if_success (with_reducible show wpAny _ _ (exec (Stmt.For _ _ _ _ _) _) _ _ _)); (fail_if_success (with_reducible show wpAny _ _ (pyIter _) _ _ _)); (fail_if_success (with_reducible show wpAny _ _ (subscriptTail _ _ (Value.ref _) (Value.int _ _)) _ _ _)); first | walk1 | (dsimp only; walk1)) | (leave1; (try dsimp only)))
          · have he : codes.getD j 0 = codes.getD (j + (2 + i) - 1) 0 := Int.ofNat.inj ‹((codes.getD j 0 : Nat) : Int) = ((codes.getD (j + (2 + i) - 1) 0 : Nat) : Int)›
            have hpr : prL codes j (j + (2 + i) - 1) = 0 := by unfold prL; rw [if_pos he]
            rw [hpr]
            rename Fr _ _ _ _ => Fq
            rename News _ _ _ _ => Nq
            exact se_intro Fq Nq ⟨(_, _), by walk_at "K"⟩
          rename News _ _ _ _ => Nq
          refine item_nat j Nq (.tail _ (.tail _ (.head _))) (by omega) (by omega) hp0 ?_
          repeat' (first | (k_unfold; (try dsimp only)) | ((fail_if_success (with_reducible show wpAny _ _ (exec (Stmt.While _ _ _ _) _) _ _ _)); (fail_if_success (with_reducible show wpAny _ _ (exec (Stmt.For _ _ _ _ _) _) _ _ _)); (fail_if_success (with_reducible show wpAny _ _ (pyIter _) _ _ _)); (fail_if_success (with_reducible show wpAny _ _ (subscriptTail _ _ (Value.ref _) (Value.int _ _)) _ _ _)); first | walk1 | (dsimp only; walk1)) | (leave1; (try dsimp only)))
          rename News _ _ _ _ => Nq
          refine item_nat (j + (2 + i) - 1) Nq (.tail _ (.tail _ (.head _))) (by omega) (by omega) hp1 ?_
          repeat' (first | (k_unfold; (try dsimp only)) | ((fail_if_success (with_reducible show wpAny _ _ (exec (Stmt.While _ _ _ _) _) _ _ _)); (fail_if_success (with_reducible show wpAny _ _ (exec (Stmt.For _ _ _ _ _) _) _ _ _)); (fail_if_success (with_reducible show wpAny _ _ (pyIter _) _ _ _)); (fail_if_success (with_reducible show wpAny _ _ (subscriptTail _ _ (Value.ref _) (Value.int _ _)) _ _ _)); first | walk1 | (dsimp only; walk1)) | (leave1; (try dsimp only)))
          · have he : ¬ codes.getD j 0 = codes.getD (j + (2 + i) - 1) 0 := fun e => absurd (congrArg (fun z : Nat => (z : Int)) e) ‹((codes.getD j 0 : Nat) : Int) ≠ ((codes.getD (j + (2 + i) - 1) 0 : Nat) : Int)›
            have he2 : codes.getD j 0 / 2 = codes.getD (j + (2 + i) - 1) 0 / 2 := by
              have q := ‹((codes.getD j 0 : Nat) : Int).fdiv 2 = ((codes.getD (j + (2 + i) - 1) 0 : Nat) : Int).fdiv 2›
              rw [fd2, fd2] at q
              exact Int.ofNat.inj q
            have hpr : prL codes j (j + (2 + i) - 1) = 1 := by unfold prL; rw [if_neg he, if_pos he2]
            rw [hpr]
            rename Fr _ _ _ _ => Fq
            rename News _ _ _ _ => Nq
            exact se_intro Fq Nq ⟨(_, _), by walk_at "K"⟩
          · have he : ¬ codes.getD j 0 = codes.getD (j + (2 + i) - 1) 0 := fun e => absurd (congrArg (fun z : Nat => (z : Int)) e) ‹((codes.getD j 0 : Nat) : Int) ≠ ((codes.getD (j + (2 + i) - 1) 0 : Nat) : Int)›
            have he2 : ¬ codes.getD j 0 / 2 = codes.getD (j + (2 + i) - 1) 0 / 2 := by
              intro e
              have q := ‹((codes.getD j 0 : Nat) : Int).fdiv 2 ≠ ((codes.getD (j + (2 + i) - 1) 0 : Nat) : Int).fdiv 2›
              rw [fd2, fd2] at q
              exact q (congrArg (fun z : Nat => (z : Int)) e)
            have hpr : prL codes j (j + (2 + i) - 1) = 2 := by unfold prL; rw [if_neg he, if_neg he2]
            rw [hpr]
            rename Fr _ _ _ _ => Fq
            rename News _ _ _ _ => Nq
            exact se_intro Fq Nq ⟨(_, _), by walk_at "K"⟩
        case ra =>
          intro h3 tk3 u3 F3 N3 ⟨⟨tpr, tst⟩, hC⟩
          have Fc := fr_norm _ F3 hC
          clear F3 hC Fb Nb
          obtain ⟨ra, tra, a1, a2, a3⟩ := hL2.item (i := j + 1) (j := j + (2 + i)) (by omega) (by omega)
          obtain ⟨rb, trb, b1, b2, b3⟩ := hL2.item (i := j) (j := j + (2 + i) - 1) (by omega) (by omega)
          obtain ⟨rc, trc, y1, y2, y3⟩ := hL2.item (i := j + 1) (j := j + (2 + i) - 1) (by omega) (by omega)
          have ma : (adr.map Value.ref)[j + 1]? = some (.ref ra.a) := by rw [List.getElem?_map, a2]; rfl
          have mb9 : (adr.map Value.ref)[j]? = some (.ref rb.a) := by rw [List.getElem?_map, b2]; rfl
          have mc : (adr.map Value.ref)[j + 1]? = some (.ref rc.a) := by rw [List.getElem?_map, y2]; rfl
          dsimp only
          repeat' (first | (k_unfold; (try dsimp only)) | ((fail_if_success (with_reducible show wpAny _ _ (exec (Stmt.While _ _ _ _) _) _ _ _)); (fail_if_success (with_reducible show wpAny _ _ (exec (Stmt.For _ _ _ _ _) _) _ _ _)); (fail_if_success (with_reducible show wpAny _ _ (pyIter _) _ _ _)); (fail_if_success (with_reducible show wpAny _ _ (subscriptTail _ _ (Value.ref _) (Value.int _ _)) _ _ _)); first | walk1 | (dsimp only; walk1)) | (leave1; (try dsimp only)))
          rename News _ _ _ _ => Nq
          refine item_nat (j + 1) Nq (.head _) (by omega) (by omega) ma ?_
          repeat' (first | (k_unfold; (try dsimp only)) | ((fail_if_success (with_reducible show wpAny _ _ (exec (Stmt.While _ _ _ _) _) _ _ _)); (fail_if_success (with_reducible show wpAny _ _ (exec (Stmt.For _ _ _ _ _) _) _ _ _)); (fail_if_success (with_reducible show wpAny _ _ (pyIter _) _ _ _)); (fail_if_success (with_reducible show wpAny _ _ (subscriptTail _ _ (Value.ref _) (Value.int _ _)) _ _ _)); first | walk1 | (dsimp only; walk1)) | (leave1; (try dsimp only)))
          rename News _ _ _ _ => Nq
          refine item_nat (j + (2 + i)) Nq (List.mem_append_left _ (mem_row a1)) (by omega) (by omega) a3 ?_
          repeat' (first | (k_unfold; (try dsimp only)) | ((fail_if_success (with_reducible show wpAny _ _ (exec (Stmt.While _ _ _ _) _) _ _ _)); (fail_if_success (with_reducible show wpAny _ _ (exec (Stmt.For _ _ _ _ _) _) _ _ _)); (fail_if_success (with_reducible show wpAny _ _ (pyIter _) _ _ _)); (fail_if_success (with_reducible show wpAny _ _ (subscriptTail _ _ (Value.ref _) (Value.int _ _)) _ _ _)); first | walk1 | (dsimp only; walk1)) | (leave1; (try dsimp only)))
          rename News _ _ _ _ => Nq
          refine item_nat (j) Nq (.head _) (by omega) (by omega) mb9 ?_
          repeat' (first | (k_unfold; (try dsimp only)) | ((fail_if_success (with_reducible show wpAny _ _ (exec (Stmt.While _ _ _ _) _) _ _ _)); (fail_if_success (with_reducible show wpAny _ _ (exec (Stmt.For _ _ _ _ _) _) _ _ _)); (fail_if_success (with_reducible show wpAny _ _ (pyIter _) _ _ _)); (fail_if_success (with_reducible show wpAny _ _ (subscriptTail _ _ (Value.ref _) (Value.int _ _)) _ _ _)); first | walk1 | (dsimp only; walk1)) | (leave1; (try dsimp only)))
          rename News _ _ _ _ => Nq
          refine item_nat (j + (2 + i) - 1) Nq (List.mem_append_left _ (mem_row b1)) (by omega) (by omega) b3 ?_
          repeat' (first | (k_unfold; (try dsimp only)) | ((fail_if_success (with_reducible show wpAny _ _ (exec (Stmt.While _ _ _ _) _) _ _ _)); (fail_if_success (with_reducible show wpAny _ _ (exec (Stmt.For _ _ _ _ _) _) _ _ _)); (fail_if_success (with_reducible show wpAny _ _ (pyIter _) _ _ _)); (fail_if_success (with_reducible show wpAny _ _ (subscriptTail _ _ (Value.ref _) (Value.int _ _)) _ _ _)); first | walk1 | (dsimp only; walk1)) | (leave1; (try dsimp only)))
          rename News _ _ _ _ => Nq
          refine item_nat (j + 1) Nq (.head _) (by omega) (by omega) mc ?_
          repeat' (first | (k_unfold; (try dsimp only)) | ((fail_if_success (with_reducible show wpAny _ _ (exec (Stmt.While _ _ _ _) _) _ _ _)); (fail_if_success (with_reducible show wpAny _ _ (exec (Stmt.For _ _ _ _ _) _) _ _ _)); (fail_if_success (with_reducible show wpAny _ _ (pyIter _) _ _ _)); (fail_if_success (with_reducible show wpAny _ _ (subscriptTail _ _ (Value.ref _) (Value.int _ _)) _ _ _)); first | walk1 | (dsimp only; walk1)) | (leave1; (try dsimp only)))
          rename News _ _ _ _ => Nq
          refine item_nat (j + (2 + i) - 1) Nq (List.mem_append_left _ (mem_row y1)) (by omega) (by omega) y3 ?_
          repeat' (first | (k_unfold; (try dsimp only)) | ((fail_if_success (with_reducible show wpAny _ _ (exec (Stmt.While _ _ _ _) _) _ _ _)); (fail_if_success (with_reducible show wpAny _ _ (exec (Stmt.For _ _ _ _ _) _) _ _ _)); (fail_if_success (with_reducible show wpAny _ _ (pyIter _) _ _ _)); (fail_if_success (with_reducible show wpAny _ _ (subscriptTail _ _ (Value.ref _) (Value.int _ _)) _ _ _)); first | walk1 | (dsimp only; walk1)) | (leave1; (try dsimp only)))
          rename News _ _ _ _ => Nq
          refine item_nat (j) Nq (.head _) (by omega) (by omega) mb9 ?_
          repeat' (first | (k_unfold; (try dsimp only)) | ((fail_if_success (with_reducible show wpAny _ _ (exec (Stmt.While _ _ _ _) _) _ _ _)); (fail_if_success (with_reducible show wpAny _ _ (exec (Stmt.For _ _ _ _ _) _) _ _ _)); (fail_if_success (with_reducible show wpAny _ _ (pyIter _) _ _ _)); (fail_if_success (with_reducible show wpAny _ _ (subscriptTail _ _ (Value.ref _) (Value.int _ _)) _ _ _)); first | walk1 | (dsimp only; walk1)) | (leave1; (try dsimp only)))
          rename Fr _ _ _ _ => Fq
          rename News _ _ _ _ => Nq
          have Nq' : News g' L' _ (LedR D _ (L' + 1, oc) (C, listOf cv.toArray nc) (rest ++ own ++ own2) adr c2) := kst_newsOf Nq led_app
          dsimp only
          refine row_set (j := j + (2 + i)) Fq Nq' hL2 b1 ?off hpwR (by omega) (by omega) (by omega) ?_
          case off =>
            intro a ha
            obtain ⟨f1, f2, f3, f4⟩ := hoffR a ha
            refine ⟨f1, f2, f3, fun p hp => ?_⟩
            rcases List.mem_append.mp hp with hp | hp
            · rcases List.mem_append.mp hp with hp | hp
              · exact f4 p hp
              · exact hoff p hp a (adr_mem hL0 ha)
            · exact hoff2 p hp a (adr_mem hL ha)
          intro h8 F8 N8
          repeat' (first | (k_unfold; (try dsimp only)) | ((fail_if_success (with_reducible show wpAny _ _ (exec (Stmt.While _ _ _ _) _) _ _ _)); (fail_if_success (with_reducible show wpAny _ _ (exec (Stmt.For _ _ _ _ _) _) _ _ _)); (fail_if_success (with_reducible show wpAny _ _ (pyIter _) _ _ _)); (fail_if_success (with_reducible show wpAny _ _ (subscriptTail _ _ (Value.ref _) (Value.int _ _)) _ _ _)); first | walk1 | (dsimp only; walk1)) | (leave1; (try dsimp only)))
          rename Fr _ _ _ _ => Fq
          rename News _ _ _ _ => Nq
          refine te_next (c2.set j _) ?_ Fq Nq (by walk_at "K") (led_mono fun p hp => List.mem_append_left _ hp) (fun p hp => led_rest p (List.mem_append_right _ hp))
          rw [List.range_succ, List.foldl_append]
          exact hL2.set b1 _ _
      case done2 =>
        rintro c2 u2 h9 tk9 hL2 Fa Na
        clear F9 N9 N9' R9
        repeat' (first | (k_unfold; (try dsimp only)) | ((fail_if_success (with_reducible show wpAny _ _ (exec (Stmt.While _ _ _ _) _) _ _ _)); (fail_if_success (with_reducible show wpAny _ _ (exec (Stmt.For _ _ _ _ _) _) _ _ _)); (fail_if_success (with_reducible show wpAny _ _ (pyIter _) _ _ _)); first | walk1 | (dsimp only; walk1)) | (leave1; (try dsimp only)))
        rename Fr _ _ _ _ => Fq
        rename News _ _ _ _ => Nq
        refine te_next c2 ?_ Fq Nq (by walk_at "K") (led_mono fun p hp => List.mem_append_left _ hp) (fun p hp => led_rest p (List.mem_append_right _ hp))
        rw [List.range'_1_concat, List.foldl_append, hM]
        show LsAt 6 adr (lsO codes 5 M (2 + i)) c2
        unfold lsO
        rw [show 5 - (2 + i) + 1 = 4 - i from by omega]
        exact hL2
    case done =>
      rintro c u h7 tk7 hL F8 N8
      clear F5 N5 R7
      dsimp only
      obtain ⟨ra, tra, a1, a2, a3⟩ := hL.item (i := 0) (j := 5) (by omega) (by omega)
      have ma : (adr.map Value.ref)[0]? = some (.ref ra.a) := by rw [List.getElem?_map, a2]; rfl
      repeat' (first | (k_unfold; (try dsimp only)) | ((fail_if_success (with_reducible show wpAny _ _ (exec (Stmt.While _ _ _ _) _) _ _ _)); (fail_if_success (with_reducible show wpAny _ _ (exec (Stmt.For _ _ _ _ _) _) _ _ _)); (fail_if_success (with_reducible show wpAny _ _ (pyIter _) _ _ _)); (fail_if_success (with_reducible show wpAny _ _ (subscriptTail _ _ (Value.ref _) (Value.int _ _)) _ _ _)); first | walk1 | (dsimp only; walk1)) | (leave1; (try dsimp only)))
      rename News _ _ _ _ => Nq
      refine item_nat 0 Nq (.head _) (by omega) (by omega) ma ?_
      repeat' (first | (k_unfold; (try dsimp only)) | ((fail_if_success (with_reducible show wpAny _ _ (exec (Stmt.While _ _ _ _) _) _ _ _)); (fail_if_success (with_reducible show wpAny _ _ (exec (Stmt.For _ _ _ _ _) _) _ _ _)); (fail_if_success (with_reducible show wpAny _ _ (pyIter _) _ _ _)); (fail_if_success (with_reducible show wpAny _ _ (subscriptTail _ _ (Value.ref _) (Value.int _ _)) _ _ _)); first | walk1 | (dsimp only; walk1)) | (leave1; (try dsimp only)))
      rename News _ _ _ _ => Nq
      refine item_nat 5 Nq (mem_row a1) (by omega) (by omega) a3 ?_
      repeat' (first | (k_unfold; (try dsimp only)) | ((fail_if_success (with_reducible show wpAny _ _ (exec (Stmt.While _ _ _ _) _) _ _ _)); (fail_if_success (with_reducible show wpAny _ _ (exec (Stmt.For _ _ _ _ _) _) _ _ _)); (fail_if_success (with_reducible show wpAny _ _ (pyIter _) _ _ _)); first | walk1 | (dsimp only; walk1)) | (leave1; (try dsimp only)))
      have hc6 : codes.length = 5 := by have := hi.length; simp at this; omega
      refine cb_retI (x := leastL codes) hret ?_ ‹Fr h₀ L _ m› (kst_newsOf ‹News h₀ L _ _› ?_)
      · unfold leastL gM
        rw [hc6]
      · intro p hp
        rcases List.mem_cons.mp hp with rfl | hp
        · exact .tail _ (.tail _ (.head _))
        · exact led_rest p hp
set_option maxHeartbeats 4000000 in
theorem all9 (q9 : Vt9) : Sp9 q9 := by
  refine @eps_all Vt9 ne9 Sp9 ?_ q9
  have h := core9
  unfold w p loose mean mg mb rest C cv nc codes dp un gd cn cs a0 ccd cl outr A₀ base h₀ L m s Q E at h
  exact h
end least_ct5_e
set_option maxHeartbeats 4000000 in
theorem least_ct5 (w : World) (p : Program) (loose : List Str) (mean : ExcName → Option Value) (mg mb : Str → Option Value) (rest : CbLed) (C : Addr) (cv : List Value) (nc : Nat) (codes : List Nat) (hi : IntsAre cv (codes.map fun (c : Nat) => (c : Int))) (hN : cv.length = 5) : Ct w p loose mean mg mb 8 131 ((C, listOf cv.toArray nc) :: rest) [.ref C] (fun t => .int (leastL codes) t) := by
  intro dp un gd cn cs a0 ccd cl outr A₀ base h₀ L m s Q E
  have h := least_ct5_e.all9 (w, p, loose, mean, mg, mb, rest, C, cv, nc, codes, dp, un, gd, cn, cs, a0, ccd, cl, outr, A₀, base, h₀, L, m, s, Q, E)
  dsimp only [least_ct5_e.Sp9, least_ct5_e.St9] at h
  exact h hi hN
end Mine
end
section
open PySem PySem.W PyProof.Rows PySem.Calls PySem.Spec
namespace Mine
noncomputable def lawS : Scope := { kind := .function, names := [(Str.ofString "script", .local), (Str.ofString "cells", .local), (Str.ofString "k", .local), (Str.ofString "codes", .local), (Str.ofString "word", .local), (Str.ofString "size", .local), (Str.ofString "fore", .local), (Str.ofString "aft", .local), (Str.ofString "told", .local), (Str.ofString "mended", .local), (Str.ofString "front", .local), (Str.ofString "behind", .local), (Str.ofString "blanks", .local), (Str.ofString "part", .local), (Str.ofString "rest", .local), (Str.ofString "near", .local), (Str.ofString "beyond", .local), (Str.ofString "left", .local), (Str.ofString "hand", .local), (Str.ofString "right", .local), (Str.ofString "mirror", .local), (Str.ofString "least", .local), (Str.ofString "halfway", .local), (Str.ofString "one", .local), (Str.ofString "other", .local), (Str.ofString "due", .local), (Str.ofString "bound", .local), (Str.ofString "pair", .local), (Str.ofString "both", .local), (Str.ofString "range", .globalImplicit), (Str.ofString "len", .globalImplicit), (Str.ofString "_Accumulator", .globalImplicit), (Str.ofString "str", .globalImplicit), (Str.ofString "_law_apart", .globalImplicit), (Str.ofString "_law_least", .globalImplicit), (Str.ofString "min", .globalImplicit), (Str.ofString "_levenshtein_distance", .globalImplicit), (Str.ofString "_ellipsis_match", .globalImplicit)], isGenerator := false, isCoroutine := false, more := [(Str.ofString "fast", .str (Str.ofString "script")), (Str.ofString "fast", .str (Str.ofString "cells")), (Str.ofString "fast", .str (Str.ofString "k")), (Str.ofString "fast", .str (Str.ofString "cell")), (Str.ofString "fast", .str (Str.ofString "codes")), (Str.ofString "fast", .str (Str.ofString "code")), (Str.ofString "fast", .str (Str.ofString "word")), (Str.ofString "fast", .str (Str.ofString "size")), (Str.ofString "fast", .str (Str.ofString "fore")), (Str.ofString "fast", .str (Str.ofString "aft")), (Str.ofString "fast", .str (Str.ofString "told")), (Str.ofString "fast", .str (Str.ofString "mended")), (Str.ofString "fast", .str (Str.ofString "front")), (Str.ofString "fast", .str (Str.ofString "behind")), (Str.ofString "fast", .str (Str.ofString "blanks")), (Str.ofString "fast", .str (Str.ofString "part")), (Str.ofString "fast", .str (Str.ofString "rest")), (Str.ofString "fast", .str (Str.ofString "near")), (Str.ofString "fast", .str (Str.ofString "beyond")), (Str.ofString "fast", .str (Str.ofString "left")), (Str.ofString "fast", .str (Str.ofString "hand")), (Str.ofString "fast", .str (Str.ofString "right")), (Str.ofString "fast", .str (Str.ofString "mirror")), (Str.ofString "fast", .str (Str.ofString "least")), (Str.ofString "fast", .str (Str.ofString "halfway")), (Str.ofString "fast", .str (Str.ofString "one")), (Str.ofString "fast", .str (Str.ofString "other")), (Str.ofString "fast", .str (Str.ofString "due")), (Str.ofString "fast", .str (Str.ofString "bound")), (Str.ofString "fast", .str (Str.ofString "pair")), (Str.ofString "fast", .str (Str.ofString "both"))] }
theorem lawS_eq : lawS = scopeOf (topStmt 16) := rfl
def lawB : List Stmt := bodyOf (topStmt 16)
/-- a piece of the law's body: what it gives, from any frame in which it may stand -/
abbrev PieG (w : World) (p : Program) (loose : List Str) (mean : ExcName → Option Value) (mg mb : Str → Option Value) (k : Nat) (code : List Stmt) (Hb : Heap → Prop) (m : (Str → Option Value) → Prop) (news : CbLed) (Post : Flow → (Str → Option Value) → CbLed → Prop) : Prop :=
  ∀ (dp un : Nat) (gd : Option (List Code)) (A₀ : Around) (base h₀ : Heap) (L : Addr) (u : Str → Option Value) (s : Shared) (Q : Flow → Shared → Prop) (R : Result → Shared → Prop),
    Below A₀ base [] h₀ → Fr h₀ L s.heap u → m u → Hb h₀ → (hd.heap_39 w.params).In h₀ → News h₀ L s.heap news → Top p loose mean mg mb h₀ → AllBare s.gens →
    dp + k < recursionLimit → un + 10 * k < cLine → (∀ f s' m' news', Post f m' news' → Fr h₀ L s'.heap m' → News h₀ L s'.heap news' → AllBare s'.gens → s'.os = s.os → Q f s') →
      wpAny (model P0 w) (ktrTop dp un gd (Str.ofString "law") lawS L 141 (.ref 140) [] []) (execs code (envOf (Str.ofString "law") lawS L 141 (.ref 140))) Q
        (fun e s' => wpAny (model P0 w) (ktrTop dp un gd (Str.ofString "law") lawS L 141 (.ref 140) [] []) (leaving (envOf (Str.ofString "law") lawS L 141 (.ref 140)) e) (fun _ s'' => R (.error e) s'') (fun e' s'' => R (.error e') s'') s') s
abbrev PieGB (w : World) (p : Program) (loose : List Str) (mean : ExcName → Option Value) (mg mb : Str → Option Value) (k : Nat) (code : List Stmt) (Hb : Heap → Prop) (m : (Str → Option Value) → Prop) (news : CbLed) (Post : Flow → (Str → Option Value) → CbLed → Prop) (dp un : Nat) (gd : Option (List Code)) (A₀ : Around) (base h₀ : Heap) (L : Addr) (u : Str → Option Value) (s : Shared) (Q : Flow → Shared → Prop) (R : Result → Shared → Prop) : Prop :=
    Below A₀ base [] h₀ → Fr h₀ L s.heap u → m u → Hb h₀ → (hd.heap_39 w.params).In h₀ → News h₀ L s.heap news → Top p loose mean mg mb h₀ → AllBare s.gens →
    dp + k < recursionLimit → un + 10 * k < cLine → (∀ f s' m' news', Post f m' news' → Fr h₀ L s'.heap m' → News h₀ L s'.heap news' → AllBare s'.gens → s'.os = s.os → Q f s') →
      wpAny (model P0 w) (ktrTop dp un gd (Str.ofString "law") lawS L 141 (.ref 140) [] []) (execs code (envOf (Str.ofString "law") lawS L 141 (.ref 140))) Q
        (fun e s' => wpAny (model P0 w) (ktrTop dp un gd (Str.ofString "law") lawS L 141 (.ref 140) [] []) (leaving (envOf (Str.ofString "law") lawS L 141 (.ref 140)) e) (fun _ s'' => R (.error e) s'') (fun e' s'' => R (.error e') s'') s') s
namespace law_codes_e
def St9 (w : World) (p : Program) (loose : List Str) (mean : ExcName → Option Value) (mg : Str → Option Value) (mb : Str → Option Value) (l : Addr) (sv : List Value) (ns : List Int) (dp : Nat) (un : Nat) (gd : Option (List Code)) (A₀ : Around) (base : Heap) (h₀ : Heap) (L : Addr) (u : Str → Option Value) (s : Shared) (Q : Flow → Shared → Prop) (R : Result → Shared → Prop) : Prop :=
  (IntsAre sv ns) → (ns.length ≤ 63) → PieGB w p loose mean mg mb 6 (lawB.take 3) (fun h => h.IsList l sv.toArray)
      (fun u => ∀ p ∈ [(Str.ofString "script", Value.ref l)], u p.1 = some p.2) []
      (fun f m' news' => f = .next ∧ ∃ (C : Addr) (cv : List Value) (nc : Nat) (codes : List Nat), (∀ p ∈ [(Str.ofString "codes", Value.ref C)], m' p.1 = some p.2) ∧ news' = [(C, listOf cv.toArray nc)] ∧ IntsAre cv (codes.map fun (c : Nat) => (c : Int)) ∧ (codes.length = 5 ∨ codes.length = 6) ∧ ∀ c ∈ codes, c < 5) dp un gd A₀ base h₀ L u s Q R
abbrev Vt9 : Type := World × Program × (List Str) × (ExcName → Option Value) × (Str → Option Value) × (Str → Option Value) × Addr × (List Value) × (List Int) × Nat × Nat × (Option (List Code)) × Around × Heap × Heap × Addr × (Str → Option Value) × Shared × (Flow → Shared → Prop) × (Result → Shared → Prop)
theorem ne9 : Nonempty Vt9 := by
  obtain ⟨w0⟩ := neW
  exact ⟨w0, default, [], (fun _ => none), (fun _ => none), (fun _ => none), 0, [], [], 0, 0, none, callerA, {}, {}, 0, (fun _ => none), {}, (fun _ _ => True), (fun _ _ => True)⟩
def Sp9 (t : Vt9) : Prop := St9 (t.1) (t.2.1) (t.2.2.1) (t.2.2.2.1) (t.2.2.2.2.1) (t.2.2.2.2.2.1) (t.2.2.2.2.2.2.1) (t.2.2.2.2.2.2.2.1) (t.2.2.2.2.2.2.2.2.1) (t.2.2.2.2.2.2.2.2.2.1) (t.2.2.2.2.2.2.2.2.2.2.1) (t.2.2.2.2.2.2.2.2.2.2.2.1) (t.2.2.2.2.2.2.2.2.2.2.2.2.1) (t.2.2.2.2.2.2.2.2.2.2.2.2.2.1) (t.2.2.2.2.2.2.2.2.2.2.2.2.2.2.1) (t.2.2.2.2.2.2.2.2.2.2.2.2.2.2.2.1) (t.2.2.2.2.2.2.2.2.2.2.2.2.2.2.2.2.1) (t.2.2.2.2.2.2.2.2.2.2.2.2.2.2.2.2.2.1) (t.2.2.2.2.2.2.2.2.2.2.2.2.2.2.2.2.2.2.1) (t.2.2.2.2.2.2.2.2.2.2.2.2.2.2.2.2.2.2.2)
noncomputable def c9 : Vt9 := @Classical.epsilon Vt9 ne9 fun t => ¬ Sp9 t
@[irreducible] noncomputable def w : World := c9.1
@[irreducible] noncomputable def p : Program := c9.2.1
@[irreducible] noncomputable def loose : List Str := c9.2.2.1
@[irreducible] noncomputable def mean : ExcName → Option Value := c9.2.2.2.1
@[irreducible] noncomputable def mg : Str → Option Value := c9.2.2.2.2.1
@[irreducible] noncomputable def mb : Str → Option Value := c9.2.2.2.2.2.1
@[irreducible] noncomputable def l : Addr := c9.2.2.2.2.2.2.1
@[irreducible] noncomputable def sv : List Value := c9.2.2.2.2.2.2.2.1
@[irreducible] noncomputable def ns : List Int := c9.2.2.2.2.2.2.2.2.1
@[irreducible] noncomputable def dp : Nat := c9.2.2.2.2.2.2.2.2.2.1
@[irreducible] noncomputable def un : Nat := c9.2.2.2.2.2.2.2.2.2.2.1
@[irreducible] noncomputable def gd : Option (List Code) := c9.2.2.2.2.2.2.2.2.2.2.2.1
@[irreducible] noncomputable def A₀ : Around := c9.2.2.2.2.2.2.2.2.2.2.2.2.1
@[irreducible] noncomputable def base : Heap := c9.2.2.2.2.2.2.2.2.2.2.2.2.2.1
@[irreducible] noncomputable def h₀ : Heap := c9.2.2.2.2.2.2.2.2.2.2.2.2.2.2.1
@[irreducible] noncomputable def L : Addr := c9.2.2.2.2.2.2.2.2.2.2.2.2.2.2.2.1
@[irreducible] noncomputable def u : Str → Option Value := c9.2.2.2.2.2.2.2.2.2.2.2.2.2.2.2.2.1
@[irreducible] noncomputable def s : Shared := c9.2.2.2.2.2.2.2.2.2.2.2.2.2.2.2.2.2.1
@[irreducible] noncomputable def Q : Flow → Shared → Prop := c9.2.2.2.2.2.2.2.2.2.2.2.2.2.2.2.2.2.2.1
@[irreducible] noncomputable def R : Result → Shared → Prop := c9.2.2.2.2.2.2.2.2.2.2.2.2.2.2.2.2.2.2.2
set_option maxRecDepth 100000 in
set_option maxHeartbeats 8000000 in
theorem core9 : St9 w p loose mean mg mb l sv ns dp un gd A₀ base h₀ L u s Q R := by
  unfold St9 PieGB P0
  k_fill
  intro hI hlen B F hm hl X N T hG hd hu hQ
  have F1 := fr_norm _ F hm
  clear F hm
  have hsl : sv.length = ns.length := hI.length
  show wpAny (model Challenge.rw_sn0024_01.row.prog w) _ (execs [_, _, _] _) _ _ _
  repeat' (first | (k_unfold; (try dsimp only)) | ((fail_if_success (with_reducible show wpAny _ _ (exec (Stmt.While _ _ _ _) _) _ _ _)); (fail_if_success (with_reducible show wpAny _ _ (exec (Stmt.For _ _ _ _ _) _) _ _ _)); (fail_if_success (with_reducible show wpAny _ _ (pyIter _) _ _ _)); first | walk1 | (dsimp only; walk1)) | (leave1; (try dsimp only)))
  rename Fr _ _ _ _ => F1
  refine For_invVF F1 (by rfl) (by rfl) ?_
  repeat' (first | (k_unfold; (try dsimp only)) | ((fail_if_success (with_reducible show wpAny _ _ (exec (Stmt.While _ _ _ _) _) _ _ _)); (fail_if_success (with_reducible show wpAny _ _ (exec (Stmt.For _ _ _ _ _) _) _ _ _)); (fail_if_success (with_reducible show wpAny _ _ (pyIter _) _ _ _)); first | walk1 | (dsimp only; walk1)) | (leave1; (try dsimp only)))
  rename IsRange _ _ _ _ _ _ _ _ => R7
  rename Fr _ _ _ _ => F5
  rename News _ _ _ _ => N5
  refine rng (σ := List (Int × Tok)) (n := ns.length) (fun c => [(_, listOf (ivals c).toArray 0)]) (fun c => [(Str.ofString "cells", Value.ref _), (Str.ofString "script", Value.ref l)]) (fun _ c => c.length = 6) [(0, _), (2, _), (3, _), (0, _), (0, _), (4, _)] rfl R7 (small_one (by omega) (by omega) (by omega) (by omega)) (by rw [rangeSize_nat]; omega) F5 N5 (by walk_at "K") rfl (fun _ _ _ => rfl) ?turn ?done
  case turn =>
    rintro j c u7 t7 h7 tk7 own hj hoff hP F8 N8
    clear F5 N5 R7
    simp only [Int.zero_add, Int.mul_one] at F8
    repeat' (first | (k_unfold; (try dsimp only)) | ((fail_if_success (with_reducible show wpAny _ _ (exec (Stmt.While _ _ _ _) _) _ _ _)); (fail_if_success (with_reducible show wpAny _ _ (exec (Stmt.For _ _ _ _ _) _) _ _ _)); (fail_if_success (with_reducible show wpAny _ _ (pyIter _) _ _ _)); (fail_if_success (with_reducible show wpAny _ _ (subscriptTail _ _ (Value.ref _) (Value.int _ _)) _ _ _)); first | walk1 | (dsimp only; walk1)) | (leave1; (try dsimp only)))
    rename News _ _ _ _ => N9
    have hj6 : j % 6 < c.length := by rw [hP]; omega
    refine get_nat (vs := ivals c) (n := 0) (j % 6) N9 (.head _) (fmN j 6) (by omega) (v := .int (c[j % 6]).1 (c[j % 6]).2) (by simp [ivals, hj6]) ?_
    repeat' (first | (k_unfold; (try dsimp only)) | ((fail_if_success (with_reducible show wpAny _ _ (exec (Stmt.While _ _ _ _) _) _ _ _)); (fail_if_success (with_reducible show wpAny _ _ (exec (Stmt.For _ _ _ _ _) _) _ _ _)); (fail_if_success (with_reducible show wpAny _ _ (pyIter _) _ _ _)); first | walk1 | (dsimp only; walk1)) | (leave1; (try dsimp only)))
    rename Fr _ _ _ _ => F9
    rename News _ _ _ _ => N9
    have ef : ((j : Nat) : Int).fmod 6 = ((j % 6 : Nat) : Int) := fmN j 6
    have hs9 : (ivals c).length = 6 := by simp [ivals, hP]
    have hiv : IntsAre (ivals c) (c.map (·.1)) := ints_iv c
    refine ksa_set F9 N9 (Upd.head fun p hp => hoff p hp _ (.head _)) hiv (by rw [ef]; omega) (by rw [ef, List.length_map, hP]; omega) (by rw [ef]; omega) ?_
    intro h' F' N' _ _ _
    rw [ef, Int.toNat_natCast] at N'
    have e9 : ∀ x t, (ivals c).set (j % 6) (.int x t) = ivals (c.set (j % 6) (x, t)) := by intro x t; unfold ivals; rw [List.map_set]
    rw [e9] at N'
    dsimp only
    repeat' (first | (k_unfold; (try dsimp only)) | ((fail_if_success (with_reducible show wpAny _ _ (exec (Stmt.While _ _ _ _) _) _ _ _)); (fail_if_success (with_reducible show wpAny _ _ (exec (Stmt.For _ _ _ _ _) _) _ _ _)); (fail_if_success (with_reducible show wpAny _ _ (pyIter _) _ _ _)); first | walk1 | (dsimp only; walk1)) | (leave1; (try dsimp only)))
    rename Fr _ _ _ _ => F9
    rename News _ _ _ _ => N9
    obtain ⟨x9, t9, N9⟩ : ∃ x t, News h₀ _ _ ((_, listOf (ivals (c.set (j % 6) (x, t))).toArray 0) :: own) := ⟨_, _, N9⟩
    exact te_next (c.set (j % 6) (x9, t9)) (by rw [List.length_set]; exact hP) F9 N9 (by walk_at "K") (fun p hp => by rw [List.mem_singleton.mp hp]; exact .head _) (fun p hp => .tail _ hp)
  case done =>
    rintro c u7 h7 tk7 hP F8 N8
    clear F5 N5 R7
    dsimp only at hP F8 N8 ⊢
    have hpar : ns.length % 2 = 0 ∨ ns.length % 2 = 1 := by omega
    obtain ⟨⟨v0, t0⟩, ⟨v1, t1⟩, ⟨v2, t2⟩, ⟨v3, t3⟩, ⟨v4, t4⟩, ⟨v5, t5⟩, rfl⟩ : ∃ a b d e f g, c = [a, b, d, e, f, g] := by
      match c, hP with
      | [a, b, d, e, f, g], _ => exact ⟨a, b, d, e, f, g, rfl⟩
    repeat' (first | (k_unfold; (try dsimp only)) | ((fail_if_success (with_reducible show wpAny _ _ (exec (Stmt.While _ _ _ _) _) _ _ _)); (fail_if_success (with_reducible show wpAny _ _ (exec (Stmt.For _ _ _ _ _) _) _ _ _)); (fail_if_success (with_reducible show wpAny _ _ (pyIter _) _ _ _)); (fail_if_success (with_reducible show wpAny _ _ (exec (Stmt.Assign _ _ (Pos.mk 147 _ _ _)) _) _ _ _)); first | walk1 | (dsimp only; walk1)) | (leave1; (try dsimp only)))
    k_dflt (refine LCg.Assign_ListComp_U (F₀ := by k_asm) (by rfl) (by with_unfolding_all rfl) (by with_unfolding_all rfl) (by decide) (by rfl) (by decide) (by rfl) (by rfl) (by rfl) ?_)
    repeat (first | (k_unfold; (try dsimp only)) | ((fail_if_success (with_reducible show LCg.CompSrc _ _ _ _ _ _ _ _ _ _ _ _ _ _)); first | walk1 | (dsimp only; walk1)))
    rename Fr _ _ _ _ => Fs
    rename News _ _ _ _ => Ns
    dsimp only at Ns ⊢
    obtain ⟨r, hr, Ns'⟩ : ∃ r : List (Int × Tok), (r.length = 5 ∨ r.length = 6) ∧ News h₀ _ _ ((h7.objs.size + 1, listOf (ivals r).toArray 0) :: [_]) := by
      rcases hpar with hpar | hpar
      · have hfm : ((ns.length : Nat) : Int).fmod 2 = 0 := by have := fmN ns.length 2; rw [hpar] at this; exact this
        rw [hfm] at Ns
        exact ⟨[(v0, t0), (v1, t1), (v2, t2), (v3, t3), (v4, t4)], .inl rfl, Ns⟩
      · have hfm : ((ns.length : Nat) : Int).fmod 2 = 1 := by have := fmN ns.length 2; rw [hpar] at this; exact this
        rw [hfm] at Ns
        exact ⟨[(v0, t0), (v1, t1), (v2, t2), (v3, t3), (v4, t4), (v5, t5)], .inr rfl, Ns⟩
    clear Ns N8 F8
    refine LCg.CompSrc.ledger (its := (ivals r).toArray) (k := 0) (by rfl) Fs Ns' (.head _) (by rw [sizeLine_eq]; simp [ivals]; omega) ?_
    intro gg
    refine comp_ind (fun i ys nw => nw = _ ∧ ∃ codes : List Nat, codes.length = i ∧ IntsAre ys (codes.map fun (c : Nat) => (c : Int)) ∧ ∀ c ∈ codes, c < 5) _ ?step ?fin ⟨rfl, [], rfl, .nil, by simp⟩
    case step =>
      rintro i ys nw hi9 ⟨rfl, codes, hc1, hc2, hc3⟩ v I oI C' oC D m₂ h tk E' hv hC hx F3 N3 off ne
      obtain ⟨x, tx, rfl⟩ : ∃ x t, v = Value.int x t := by
        have hv' : (ivals r)[i]? = some v := by simpa using hv
        rw [List.getElem?_map] at hv'
        cases hq : r[i]? with
        | none => rw [hq] at hv'; cases hv'
        | some q => rw [hq] at hv'; exact ⟨_, _, (Option.some.inj hv').symm⟩
      repeat' (first | (k_unfold; (try dsimp only)) | ((fail_if_success (with_reducible show wpAny _ _ (exec (Stmt.While _ _ _ _) _) _ _ _)); (fail_if_success (with_reducible show wpAny _ _ (exec (Stmt.For _ _ _ _ _) _) _ _ _)); (fail_if_success (with_reducible show wpAny _ _ (pyIter _) _ _ _)); first | walk1 | (dsimp only; walk1)) | (leave1; (try dsimp only)))
      rename Fr _ _ _ _ => Fq
      rename News _ _ _ _ => Nq
      have h5 : x.fmod 5 = (((x.fmod 5).toNat : Nat) : Int) := by
        have := Int.fmod_nonneg_of_pos x (show (0 : Int) < 5 by decide)
        omega
      have h6 : (x.fmod 5).toNat < 5 := by
        have := Int.fmod_lt_of_pos x (show (0 : Int) < 5 by decide)
        omega
      refine LCg.CompEnd.intro Fq Nq _ (fun p hp => hp) off (.inr ⟨_, .head _, rfl, _, rfl⟩) ⟨rfl, codes ++ [(x.fmod 5).toNat], by rw [List.length_append, hc1]; rfl, ints_snoc h5 hc2, ?_⟩
      intro c hc
      rcases List.mem_append.mp hc with hc | hc
      · exact hc3 c hc
      · rw [List.mem_singleton.mp hc]; exact h6
    case fin =>
      rintro ys nw ⟨rfl, codes, hc1, hc2, hc3⟩
      intro D h tk F3 N3 off
      dsimp only
      repeat' (first | (k_unfold; (try dsimp only)) | ((fail_if_success (with_reducible show wpAny _ _ (exec (Stmt.While _ _ _ _) _) _ _ _)); (fail_if_success (with_reducible show wpAny _ _ (exec (Stmt.For _ _ _ _ _) _) _ _ _)); (fail_if_success (with_reducible show wpAny _ _ (pyIter _) _ _ _)); first | walk1 | (dsimp only; walk1)) | (leave1; (try dsimp only)))
      rename Fr _ _ _ _ => Fq
      rename News _ _ _ _ => Nq
      have hc6 : codes.length = 5 ∨ codes.length = 6 := by rw [hc1]; simpa [ivals] using hr
      exact hQ _ _ _ _ ⟨rfl, D, ys, ys.length, codes, by walk_at "K", rfl, hc2, hc6, hc3⟩ Fq (kst_newsOf Nq (fun p hp => by rw [List.mem_singleton.mp hp]; exact .head _)) hG rfl
set_option maxHeartbeats 4000000 in
theorem all9 (q9 : Vt9) : Sp9 q9 := by
  refine @eps_all Vt9 ne9 Sp9 ?_ q9
  have h := core9
  unfold w p loose mean mg mb l sv ns dp un gd A₀ base h₀ L u s Q R at h
  exact h
end law_codes_e
set_option maxHeartbeats 4000000 in
theorem law_codes (w : World) (p : Program) (loose : List Str) (mean : ExcName → Option Value) (mg mb : Str → Option Value) (l : Addr) (sv : List Value) (ns : List Int) (hI : IntsAre sv ns) (hlen : ns.length ≤ 63) : PieG w p loose mean mg mb 6 (lawB.take 3) (fun h => h.IsList l sv.toArray)
      (fun u => ∀ p ∈ [(Str.ofString "script", Value.ref l)], u p.1 = some p.2) []
      (fun f m' news' => f = .next ∧ ∃ (C : Addr) (cv : List Value) (nc : Nat) (codes : List Nat), (∀ p ∈ [(Str.ofString "codes", Value.ref C)], m' p.1 = some p.2) ∧ news' = [(C, listOf cv.toArray nc)] ∧ IntsAre cv (codes.map fun (c : Nat) => (c : Int)) ∧ (codes.length = 5 ∨ codes.length = 6) ∧ ∀ c ∈ codes, c < 5) := by
  intro dp un gd A₀ base h₀ L u s Q R
  have h := law_codes_e.all9 (w, p, loose, mean, mg, mb, l, sv, ns, dp, un, gd, A₀, base, h₀, L, u, s, Q, R)
  dsimp only [law_codes_e.Sp9, law_codes_e.St9] at h
  exact h hI hlen
end Mine
end
section
open PySem PySem.W PyProof.Rows PySem.Calls PySem.Spec
namespace Mine
def ltr (c : Nat) : Nat := [97, 65, 98, 66, 32].getD c 32
theorem snocP {q : List (List Nat × Tok)} {x : List Nat} {t : Tok} {l : List (List Nat)} (h : q.map (·.1) ++ [x] = l) : ∃ q' : List (List Nat × Tok), valsL q ++ [.str (ofL x) t] = valsL q' ∧ q'.map (·.1) = l :=
  ⟨q ++ [(x, t)], by unfold valsL; rw [List.map_append]; rfl, by rw [List.map_append]; exact h⟩
theorem flat_one (f : Nat → Nat) : ∀ l : List Nat, (l.map fun c => [f c]).flatten = l.map f
  | [] => rfl
  | c :: l => by rw [List.map_cons, List.flatten_cons, flat_one f l]; rfl
theorem ltr_item {c : Nat} (h : c < 5) : Txt.item (Str.ofString "aAbB ") ((c : Nat) : Int) = ofL [ltr c] := by
  obtain rfl | rfl | rfl | rfl | rfl : c = 0 ∨ c = 1 ∨ c = 2 ∨ c = 3 ∨ c = 4 := by omega
  all_goals rfl
set_option maxRecDepth 100000 in
set_option maxHeartbeats 8000000 in
/-- line 148: the word -/
theorem law_word (w : World) (p : Program) (loose : List Str) (mean : ExcName → Option Value) (mg mb : Str → Option Value) (C : Addr) (cv : List Value) (nc : Nat) (codes : List Nat) (hi : IntsAre cv (codes.map fun (c : Nat) => (c : Int))) (h6 : codes.length ≤ 6) (h5 : ∀ c ∈ codes, c < 5) :
    PieG w p loose mean mg mb 6 ((lawB.drop 3).take 2) (fun _ => True)
      (fun u => ∀ p ∈ [(Str.ofString "codes", Value.ref C)], u p.1 = some p.2) [(C, listOf cv.toArray nc)]
      (fun f m' news' => f = .next ∧ news' = [(C, listOf cv.toArray nc)] ∧ ∃ tw ts, ∀ p ∈ [(Str.ofString "size", Value.int (codes.length : Nat) ts), (Str.ofString "word", Value.str (ofL (codes.map ltr)) tw), (Str.ofString "codes", Value.ref C)], m' p.1 = some p.2) := by
  unfold PieG P0
  k_fill
  intro dp un gd A₀ base h₀ L u s Q R B F hm _ X N T hG hd hu hQ
  have F1 := fr_norm _ F hm
  clear F hm
  show wpAny (model Challenge.rw_sn0024_01.row.prog w) _ (execs [_, _] _) _ _ _
  repeat' (first | (k_unfold; (try dsimp only)) | ((fail_if_success (with_reducible show wpAny _ _ (exec (Stmt.While _ _ _ _) _) _ _ _)); (fail_if_success (with_reducible show wpAny _ _ (exec (Stmt.For _ _ _ _ _) _) _ _ _)); (fail_if_success (with_reducible show wpAny _ _ (pyIter _) _ _ _)); (fail_if_success (with_reducible show wpAny _ _ (eval (Expr.ListComp _ _ _ _) _) _ _ _)); first | walk1 | (dsimp only; walk1)) | (leave1; (try dsimp only)))
  k_dflt (refine LCg.ListComp_U (F₀ := by k_asm) (by rfl) (by decide) (by rfl) (by decide) (by rfl) ?_)
  repeat (first | (k_unfold; (try dsimp only)) | ((fail_if_success (with_reducible show LCg.CompSrc _ _ _ _ _ _ _ _ _ _ _ _ _ _)); first | walk1 | (dsimp only; walk1)))
  rename Fr _ _ _ _ => Fs
  rename News _ _ _ _ => Ns
  dsimp only
  refine LCg.CompSrc.ledger (its := cv.toArray) (k := nc) (by rfl) Fs Ns (.head _) (by rw [sizeLine_eq]; have := hi.length; simp at this; simp; omega) ?_
  intro gg
  refine comp_ind (fun i ys nw => nw = [(C, listOf cv.toArray nc)] ∧ ∃ q : List (List Nat × Tok), ys = valsL q ∧ q.map (·.1) = (codes.take i).map fun c => [ltr c]) _ ?step ?fin ⟨rfl, [], rfl, rfl⟩
  case step =>
    rintro i ys nw hi9 ⟨rfl, q, rfl, hq⟩ v I oI C' oC D m₂ h tk E' hv hC hx F3 N3 off ne
    have hi8 : i < codes.length := by have := hi.length; simp at this hi9; omega
    obtain ⟨tx, hx2⟩ := cod_get hi hi8
    obtain rfl : v = .int (codes.getD i 0 : Nat) tx := by
      have hv' : cv[i]? = some v := by simpa using hv
      rw [hx2] at hv'
      exact (Option.some.inj hv').symm
    have hc5 : codes.getD i 0 < 5 := h5 _ (by rw [List.getD_eq_getElem?_getD, List.getElem?_eq_getElem hi8]; exact List.getElem_mem hi8)
    repeat' (first | (k_unfold; (try dsimp only)) | ((fail_if_success (with_reducible show wpAny _ _ (exec (Stmt.While _ _ _ _) _) _ _ _)); (fail_if_success (with_reducible show wpAny _ _ (exec (Stmt.For _ _ _ _ _) _) _ _ _)); (fail_if_success (with_reducible show wpAny _ _ (pyIter _) _ _ _)); first | walk1 | (dsimp only; walk1)) | (leave1; (try dsimp only)))
    rename Fr _ _ _ _ => Fq
    rename News _ _ _ _ => Nq
    rw [ltr_item hc5]
    refine LCg.CompEnd.intro Fq Nq _ (fun p hp => hp) off (.inr ⟨_, .head _, rfl, _, rfl⟩) ⟨rfl, snocP ?_⟩
    rw [hq, List.take_succ, List.map_append]
    congr 1
    rw [List.getElem?_eq_getElem hi8, List.getD_eq_getElem?_getD, List.getElem?_eq_getElem hi8]
    rfl
  case fin =>
    rintro ys nw ⟨rfl, q, rfl, hq⟩
    have hlc : cv.length = codes.length := by have := hi.length; simp at this; omega
    have hq2 : q.map (·.1) = codes.map fun c => [ltr c] := by
      rw [hq, List.size_toArray, hlc, List.take_length]
    have hfl : (q.map (·.1)).flatten = codes.map ltr := by
      rw [hq2, flat_one]
    repeat' (first | (k_unfold; (try dsimp only)) | ((fail_if_success (with_reducible show wpAny _ _ (exec (Stmt.While _ _ _ _) _) _ _ _)); (fail_if_success (with_reducible show wpAny _ _ (exec (Stmt.For _ _ _ _ _) _) _ _ _)); (fail_if_success (with_reducible show wpAny _ _ (pyIter _) _ _ _)); first | walk1 | (dsimp only; walk1)) | (leave1; (try dsimp only)))
    rename Fr _ _ _ _ => Fq
    rename News _ _ _ _ => Nq
    refine join_at (q := q) (n := (valsL q).length) Nq (.head _) (by rw [hfl, List.length_map]; omega) ?_
    intro t' k'
    rw [hfl]
    have hlw : Str.length (ofL (codes.map ltr)) = codes.length := by rw [ofL_len, List.length_map]
    dsimp only
    repeat' (first | (k_unfold; (try dsimp only)) | ((fail_if_success (with_reducible show wpAny _ _ (exec (Stmt.While _ _ _ _) _) _ _ _)); (fail_if_success (with_reducible show wpAny _ _ (exec (Stmt.For _ _ _ _ _) _) _ _ _)); (fail_if_success (with_reducible show wpAny _ _ (pyIter _) _ _ _)); first | walk1 | (dsimp only; walk1)) | (leave1; (try dsimp only)))
    rename Fr _ _ _ _ => Fq
    rename News _ _ _ _ => Nq
    rw [hlw] at Fq
    exact hQ _ _ _ _ ⟨rfl, rfl, _, _, by walk_at "K"⟩ Fq (kst_newsOf Nq (fun p hp => .tail _ hp)) hG rfl
end Mine
end
section
open PySem PySem.W PyProof.Rows PySem.Calls PySem.Spec
set_option maxRecDepth 100000
set_option maxHeartbeats 4000000
namespace Mine
def itObj (x left st : Int) : Obj := { cls := .type "range_iterator", data := .fields #[.int x 0, .int left 0, .int st 0] }
theorem itObj_iff {h : Heap} {I : Addr} {x left st : Int} : IsRangeIter h I x left st ↔ h.get? I = some (itObj x left st) := Iff.rfl
def RngTurn (hb : Heap) (L I : Addr) (it : Obj) (os0 : OsState) (P : (Str → Option Value) → CbLed → Prop) (Q : Flow → Shared → Prop) (f : Flow) (s₂ : Shared) : Prop := match f with
  | .next => ∃ m' nx', Fr hb L s₂.heap m' ∧ News hb L s₂.heap ((I, it) :: nx') ∧ (∀ p ∈ nx', p.1 ≠ I) ∧ P m' nx' ∧ AllBare s₂.gens ∧ s₂.os = os0
  | .ret v => Q (.ret v) s₂
  | _ => False
theorem RngTurn.mk {hb : Heap} {L I : Addr} {it : Obj} {os0 : OsState} {P : (Str → Option Value) → CbLed → Prop} {Q : Flow → Shared → Prop} {s₂ : Shared} {m' : Str → Option Value} {nx' : CbLed} (F : Fr hb L s₂.heap m') (N : News hb L s₂.heap ((I, it) :: nx')) (h1 : ∀ p ∈ nx', p.1 ≠ I) (h2 : P m' nx') (h3 : AllBare s₂.gens) (h4 : s₂.os = os0) : RngTurn hb L I it os0 P Q .next s₂ := ⟨m', nx', F, N, h1, h2, h3, h4⟩
def RngIn (hb : Heap) (L : Addr) (a st : Int) (n : Nat) (os0 : OsState) (P : Nat → (Str → Option Value) → CbLed → Prop) (xv : Value) (s₁ : Shared) : Prop :=
  ∃ r b t u v m nx, xv = .ref r ∧ IsRange s₁.heap r a b st t u v ∧ Builtin.Range.small a b st = true ∧ Builtin.Range.rangeSize a b st = (n : Int) ∧ Fr hb L s₁.heap m ∧ News hb L s₁.heap nx ∧ AllBare s₁.gens ∧ s₁.os = os0 ∧ P 0 m nx
theorem RngIn.mk {hb : Heap} {L r : Addr} {a b st : Int} {t u v : Tok} {n : Nat} {P : Nat → (Str → Option Value) → CbLed → Prop} {s₁ : Shared} {m : Str → Option Value} {nx : CbLed} (hr : IsRange s₁.heap r a b st t u v) (h1 : Builtin.Range.small a b st = true) (h2 : Builtin.Range.rangeSize a b st = (n : Int)) (F : Fr hb L s₁.heap m) (N : News hb L s₁.heap nx) (G : AllBare s₁.gens) {os0 : OsState} (os : s₁.os = os0) (hP : P 0 m nx) : RngIn hb L a st n os0 P (.ref r) s₁ :=
  ⟨r, b, t, u, v, m, nx, rfl, hr, h1, h2, F, N, G, os, hP⟩
section
variable {prog : Program} {w : World} {A : Around} {s : Shared} {hb : Heap} {env : Env}
/-- a loop over a range whose turns may make objects and run generators -/
theorem for_rngG {x : Str} {px pos : Pos} {iter : PySem.Expr} {body : List Stmt} {Q : Flow → Shared → Prop} {E : Value → Shared → Prop} (a st : Int) (n : Nat) (os0 : OsState) (P : Nat → (Str → Option Value) → CbLed → Prop)
    (hh : A.handled = none) (hx : env.kindOf x = some .local) (hp : (env.scope.kind == .class || (env.scope.kind == .module && env.locals != env.globals)) = false)
    (h : wpAny (model prog w) A (eval iter env) (RngIn hb env.locals a st n os0 P) E s)
    (turn : ∀ (i : Nat) m nx (s : Shared) I t, i < n → P i m nx → (∀ p ∈ nx, p.1 ≠ I) → Fr hb env.locals s.heap (fun y => if y = x then some (.int (a + (i : Int) * st) t) else m y) → News hb env.locals s.heap ((I, itObj (a + ((i + 1 : Nat) : Int) * st) ((n : Int) - ((i + 1 : Nat) : Int)) st) :: nx) → AllBare s.gens → s.os = os0 →
      wpAny (model prog w) A (execs body env) (RngTurn hb env.locals I (itObj (a + ((i + 1 : Nat) : Int) * st) ((n : Int) - ((i + 1 : Nat) : Int)) st) os0 (P (i + 1)) Q) E s)
    (done : ∀ m nx (s : Shared), P n m nx → Fr hb env.locals s.heap m → News hb env.locals s.heap nx → AllBare s.gens → s.os = os0 → Q .next s)
    (hs : ∀ x, foldedSetIterable iter env x = pure x := by intro _; rfl)
    (hE : PassesOwn (model prog w) A env E := by passes_own) :
    wpAny (model prog w) A (exec (.For (.Name x px) iter body [] pos) env) Q E s := by
  refine wpAny_For (wpAny_mono h (fun xv s₁ h₁ => ?_) fun _ _ e => e) hs
  obtain ⟨r, b, t, u, v, m, nx, rfl, hr, hsm, hn, F, N, G, os, hP⟩ := h₁
  refine wpAny_pyIter_range hr hsm ?_
  refine codeAny_forLoop (fun k s' => ∃ i m nx, k = n - i ∧ i ≤ n ∧ Fr hb env.locals s'.heap m ∧ News hb env.locals s'.heap ((s₁.heap.objs.size, itObj (a + (i : Int) * st) ((n : Int) - (i : Int)) st) :: nx) ∧ (∀ p ∈ nx, p.1 ≠ s₁.heap.objs.size) ∧ AllBare s'.gens ∧ s'.os = os0 ∧ P i m nx) ?_ n ⟨0, m, nx, rfl, Nat.zero_le _, F.push _, ?_, fun p hp => Nat.ne_of_lt (Heap.lt_size (N p hp).1), G, os, hP⟩
  · rintro k s' ⟨i, m', nx', rfl, hi, F', N', off, G', os', hP'⟩
    have hI := N' _ (.head _)
    obtain ⟨hI1, hI2, hI3⟩ := hI
    rcases Nat.lt_or_ge i n with hlt | hge
    · refine wpAny_pyNext_range_item hI1 (by omega) fun h' hit' sb => ?_
      have e1 : a + (i : Int) * st + st = a + ((i + 1 : Nat) : Int) * st := by rw [Int.natCast_succ, Int.add_mul]; omega
      have e2 : (n : Int) - (i : Int) - 1 = (n : Int) - ((i + 1 : Nat) : Int) := by omega
      rw [e1, e2] at hit'
      have F2 : Fr hb env.locals h' m' := F'.change sb hI2 hI3
      have N2 : News hb env.locals h' ((s₁.heap.objs.size, itObj (a + ((i + 1 : Nat) : Int) * st) ((n : Int) - ((i + 1 : Nat) : Int)) st) :: nx') := by
        intro p hp
        rcases List.mem_cons.mp hp with rfl | hp
        · exact ⟨hit', hI2, hI3⟩
        · have z := N' p (.tail _ hp)
          exact ⟨sb.extBut _ _ (off p hp) z.1, z.2⟩
      refine wpAny_assign_Name (wpAny_storeName_local hx F2.ns (fun h'' hn hs => ?_) hp)
      refine wpAny_passesOwn hE (wpAny_mono (turn i m' nx' _ s₁.heap.objs.size _ hlt hP' off (F2.set hn hs) (N2.set hs) G' os') (fun f s₃ hf => ?_) fun _ _ e => e)
      cases f with
      | next =>
        obtain ⟨m3, nx3, F3, N3, off3, P3, G3, os3⟩ := hf
        exact ⟨n - (i + 1), by omega, i + 1, m3, nx3, rfl, hlt, F3, N3, off3, G3, os3, P3⟩
      | ret v => exact hf
      | brk => exact hf.elim
      | cont => exact hf.elim
    · obtain rfl : i = n := Nat.le_antisymm hi hge
      refine wpAny_pyNext_range_end hh hI1 (by omega) fun h' he => ?_
      refine wpAny_execs_nil ?_
      have F2 : Fr hb env.locals h' m' := ⟨F'.ns.extBut he (Ne.symm hI2), fun b o e => he b o (fun q => by rw [q, hI3] at e; cases e) (F'.keep b o e), F'.above⟩
      exact done m' nx' _ hP' F2 (fun p hp => ⟨he _ _ (off p hp) (N' p (.tail _ hp)).1, (N' p (.tail _ hp)).2⟩) G' os'
  · intro p hp
    rcases List.mem_cons.mp hp with rfl | hp
    · refine ⟨?_, Ne.symm (Nat.ne_of_lt F.ns.lt), ?_⟩
      · have z := Heap.get?_push_size s₁.heap (o := { cls := .type "range_iterator", data := .fields #[rawInt a, rawInt (Builtin.Range.rangeSize a b st), rawInt st] }) rfl
        rw [hn] at z ⊢
        rw [z]
        unfold itObj rawInt
        simp
      · cases e : hb.get? s₁.heap.objs.size with
        | none => rfl
        | some o => exact absurd (Heap.lt_size (F.keep _ _ e)) (Nat.lt_irrefl _)
    · exact ⟨Heap.get?_push_of_some _ (N p hp).1, (N p hp).2⟩
end
theorem fr_loop {h₀ h : Heap} {L : Addr} {x : Str} {v : Value} {m : Str → Option Value} (ps : List (Str × Value)) (F : Fr h₀ L h (fun y => if y = x then some v else m y)) (hk : ∀ p ∈ ps, m p.1 = some p.2) : Fr h₀ L h (fun y => if y = x then some v else kstB m ps y) := by
  have e : kstB m ps = m := by
    funext y
    exact kstB_eq hk fun _ => rfl
  rw [e]; exact F
theorem clip_nat (d k n : Nat) : clipI d (some (k : Int)) n = min k n := by
  unfold clipI
  simp only
  split <;> omega
theorem slice_mid (xs : List Nat) (a b : Nat) : Txt.slice (ofL xs) (some (a : Int)) (some (b : Int)) = ofL ((xs.drop a).take (b - a)) := by
  rw [slice_ofL, clip_nat, clip_nat]
  congr 1
  have e1 : xs.take (min b xs.length) = xs.take b := by
    rcases Nat.le_total b xs.length with h | h
    · rw [Nat.min_eq_left h]
    · rw [Nat.min_eq_right h, List.take_length, List.take_of_length_le h]
  rw [e1]
  rcases Nat.le_total a xs.length with h | h
  · rw [Nat.min_eq_left h, List.drop_take]
  · rw [Nat.min_eq_right h, List.drop_eq_nil_of_le (as := xs) h, List.take_nil, List.drop_eq_nil_of_le (by rw [List.length_take]; omega)]
end Mine
end
section
open PySem PySem.W PyProof.Rows PySem.Calls PySem.Spec
namespace Mine
abbrev LedL (w : World) (x dx y dy : Addr) (n1 n2 : Nat) (t1 t2 t3 t4 : Tok) (fs qs : List Pc) (rest : CbLed) : CbLed := (x, accObj dx (pcVals fs) n1) :: (dx, accDict w t1 t2) :: (y, accObj dy (pcVals qs) n2) :: (dy, accDict w t3 t4) :: rest
def OffL (x dx y dy : Addr) (rest : CbLed) : Prop := x ≠ dx ∧ x ≠ y ∧ x ≠ dy ∧ dx ≠ y ∧ dx ≠ dy ∧ y ≠ dy ∧ ∀ p ∈ rest, p.1 ≠ x ∧ p.1 ≠ dx ∧ p.1 ≠ y ∧ p.1 ≠ dy
def HasP (fs : List Pc) (rest : CbLed) : Prop := ∀ p ∈ fs, (p.T, p.obj) ∈ rest
def Pc.tx (p : Pc) : List Nat × List Nat := (p.a, p.b)
def pcs (W : List Nat) (i : Nat) : List (List Nat × List Nat) := (List.range i).map fun j => ([W.getD (2 * j) 0], (W.drop (2 * j + 1)).take 1)
namespace law_push_e
def St9 (w : World) (p : Program) (loose : List Str) (mean : ExcName → Option Value) (mg : Str → Option Value) (mb : Str → Option Value) (C : Addr) (oC : Obj) (W : List Nat) (tw : Tok) (ts : Tok) (dp : Nat) (un : Nat) (gd : Option (List Code)) (A₀ : Around) (base : Heap) (h₀ : Heap) (L : Addr) (u : Str → Option Value) (s : Shared) (Q : Flow → Shared → Prop) (R : Result → Shared → Prop) : Prop :=
  (W.length = 5 ∨ W.length = 6) → PieGB w p loose mean mg mb 10 ((lawB.drop 5).take 3) (fun _ => True)
      (fun u => ∀ p ∈ [(Str.ofString "size", Value.int (W.length : Nat) ts), (Str.ofString "word", Value.str (ofL W) tw), (Str.ofString "codes", Value.ref C)], u p.1 = some p.2) [(C, oC)]
      (fun f m' news' => f = .next ∧ ∃ x dx y dy n1 n2 t1 t2 t3 t4 fs rest, news' = LedL w x dx y dy n1 n2 t1 t2 t3 t4 fs [] rest ∧ OffL x dx y dy rest ∧ HasP fs rest ∧ fs.map Pc.tx = pcs W 3 ∧ (C, oC) ∈ rest ∧
        ∀ p ∈ [(Str.ofString "aft", Value.ref y), (Str.ofString "fore", Value.ref x), (Str.ofString "size", Value.int (W.length : Nat) ts), (Str.ofString "word", Value.str (ofL W) tw), (Str.ofString "codes", Value.ref C)], m' p.1 = some p.2) dp un gd A₀ base h₀ L u s Q R
abbrev Vt9 : Type := World × Program × (List Str) × (ExcName → Option Value) × (Str → Option Value) × (Str → Option Value) × Addr × Obj × (List Nat) × Tok × Tok × Nat × Nat × (Option (List Code)) × Around × Heap × Heap × Addr × (Str → Option Value) × Shared × (Flow → Shared → Prop) × (Result → Shared → Prop)
theorem ne9 : Nonempty Vt9 := by
  obtain ⟨w0⟩ := neW
  exact ⟨w0, default, [], (fun _ => none), (fun _ => none), (fun _ => none), 0, { cls := .none, data := .plain }, [], 0, 0, 0, 0, none, callerA, {}, {}, 0, (fun _ => none), {}, (fun _ _ => True), (fun _ _ => True)⟩
def Sp9 (t : Vt9) : Prop := St9 (t.1) (t.2.1) (t.2.2.1) (t.2.2.2.1) (t.2.2.2.2.1) (t.2.2.2.2.2.1) (t.2.2.2.2.2.2.1) (t.2.2.2.2.2.2.2.1) (t.2.2.2.2.2.2.2.2.1) (t.2.2.2.2.2.2.2.2.2.1) (t.2.2.2.2.2.2.2.2.2.2.1) (t.2.2.2.2.2.2.2.2.2.2.2.1) (t.2.2.2.2.2.2.2.2.2.2.2.2.1) (t.2.2.2.2.2.2.2.2.2.2.2.2.2.1) (t.2.2.2.2.2.2.2.2.2.2.2.2.2.2.1) (t.2.2.2.2.2.2.2.2.2.2.2.2.2.2.2.1) (t.2.2.2.2.2.2.2.2.2.2.2.2.2.2.2.2.1) (t.2.2.2.2.2.2.2.2.2.2.2.2.2.2.2.2.2.1) (t.2.2.2.2.2.2.2.2.2.2.2.2.2.2.2.2.2.2.1) (t.2.2.2.2.2.2.2.2.2.2.2.2.2.2.2.2.2.2.2.1) (t.2.2.2.2.2.2.2.2.2.2.2.2.2.2.2.2.2.2.2.2.1) (t.2.2.2.2.2.2.2.2.2.2.2.2.2.2.2.2.2.2.2.2.2)
noncomputable def c9 : Vt9 := @Classical.epsilon Vt9 ne9 fun t => ¬ Sp9 t
@[irreducible] noncomputable def w : World := c9.1
@[irreducible] noncomputable def p : Program := c9.2.1
@[irreducible] noncomputable def loose : List Str := c9.2.2.1
@[irreducible] noncomputable def mean : ExcName → Option Value := c9.2.2.2.1
@[irreducible] noncomputable def mg : Str → Option Value := c9.2.2.2.2.1
@[irreducible] noncomputable def mb : Str → Option Value := c9.2.2.2.2.2.1
@[irreducible] noncomputable def C : Addr := c9.2.2.2.2.2.2.1
@[irreducible] noncomputable def oC : Obj := c9.2.2.2.2.2.2.2.1
@[irreducible] noncomputable def W : List Nat := c9.2.2.2.2.2.2.2.2.1
@[irreducible] noncomputable def tw : Tok := c9.2.2.2.2.2.2.2.2.2.1
@[irreducible] noncomputable def ts : Tok := c9.2.2.2.2.2.2.2.2.2.2.1
@[irreducible] noncomputable def dp : Nat := c9.2.2.2.2.2.2.2.2.2.2.2.1
@[irreducible] noncomputable def un : Nat := c9.2.2.2.2.2.2.2.2.2.2.2.2.1
@[irreducible] noncomputable def gd : Option (List Code) := c9.2.2.2.2.2.2.2.2.2.2.2.2.2.1
@[irreducible] noncomputable def A₀ : Around := c9.2.2.2.2.2.2.2.2.2.2.2.2.2.2.1
@[irreducible] noncomputable def base : Heap := c9.2.2.2.2.2.2.2.2.2.2.2.2.2.2.2.1
@[irreducible] noncomputable def h₀ : Heap := c9.2.2.2.2.2.2.2.2.2.2.2.2.2.2.2.2.1
@[irreducible] noncomputable def L : Addr := c9.2.2.2.2.2.2.2.2.2.2.2.2.2.2.2.2.2.1
@[irreducible] noncomputable def u : Str → Option Value := c9.2.2.2.2.2.2.2.2.2.2.2.2.2.2.2.2.2.2.1
@[irreducible] noncomputable def s : Shared := c9.2.2.2.2.2.2.2.2.2.2.2.2.2.2.2.2.2.2.2.1
@[irreducible] noncomputable def Q : Flow → Shared → Prop := c9.2.2.2.2.2.2.2.2.2.2.2.2.2.2.2.2.2.2.2.2.1
@[irreducible] noncomputable def R : Result → Shared → Prop := c9.2.2.2.2.2.2.2.2.2.2.2.2.2.2.2.2.2.2.2.2.2
set_option maxRecDepth 100000 in
set_option maxHeartbeats 8000000 in
theorem core9 : St9 w p loose mean mg mb C oC W tw ts dp un gd A₀ base h₀ L u s Q R := by
  unfold St9 PieGB P0
  k_fill
  intro h56 B F hm _ X N T hG hd hu hQ
  have F1 := fr_norm _ F hm
  have rs1 : Builtin.Range.small 0 (W.length : Nat) 2 = true := by rcases h56 with h | h <;> rw [h] <;> decide
  have rs2 : Builtin.Range.rangeSize 0 (W.length : Nat) 2 = ((3 : Nat) : Int) := by rcases h56 with h | h <;> rw [h] <;> decide
  have hlw : Str.length (ofL W) = W.length := ofL_len W
  clear F hm
  show wpAny (model Challenge.rw_sn0024_01.row.prog w) _ (execs [_, _, _] _) _ _ _
  repeat' (first | (k_unfold; (try dsimp only)) | ((fail_if_success (with_reducible show wpAny _ _ (exec (Stmt.While _ _ _ _) _) _ _ _)); (fail_if_success (with_reducible show wpAny _ _ (exec (Stmt.For _ _ _ _ _) _) _ _ _)); (fail_if_success (with_reducible show wpAny _ _ (pyIter _) _ _ _)); first | walk1 | (dsimp only; walk1)) | (leave1; (try dsimp only)))
  rename Fr _ _ _ _ => F2
  rename News _ _ _ _ => N2
  refine acc_ct w p loose mean mg mb _ dp un gd _ _ _ _ _ _ _ _ _ _ _ _ _ _ B F2 X N2 T rfl (by omega) (by omega) ?_
  rintro v1 h3 tk3 news3 ⟨x, dx, n1, t1, t2, rfl, rfl, l1, l2⟩ F3 N3
  clear F2 N2
  dsimp only
  repeat' (first | (k_unfold; (try dsimp only)) | ((fail_if_success (with_reducible show wpAny _ _ (exec (Stmt.While _ _ _ _) _) _ _ _)); (fail_if_success (with_reducible show wpAny _ _ (exec (Stmt.For _ _ _ _ _) _) _ _ _)); (fail_if_success (with_reducible show wpAny _ _ (pyIter _) _ _ _)); first | walk1 | (dsimp only; walk1)) | (leave1; (try dsimp only)))
  rename Fr _ _ _ _ => F2
  rename News _ _ _ _ => N2
  refine acc_ct w p loose mean mg mb _ dp un gd _ _ _ _ _ _ _ _ _ _ _ _ _ _ B F2 X N2 T rfl (by omega) (by omega) ?_
  rintro v2 h4 tk4 news4 ⟨y, dy, n2, t3, t4, rfl, rfl, l3, l4⟩ F4 N4
  clear F2 N2
  dsimp only
  repeat' (first | (k_unfold; (try dsimp only)) | ((fail_if_success (with_reducible show wpAny _ _ (exec (Stmt.While _ _ _ _) _) _ _ _)); (fail_if_success (with_reducible show wpAny _ _ (exec (Stmt.For _ _ _ _ _) _) _ _ _)); (fail_if_success (with_reducible show wpAny _ _ (pyIter _) _ _ _)); first | walk1 | (dsimp only; walk1)) | (leave1; (try dsimp only)))
  rename Fr _ _ _ _ => F5
  rename News _ _ _ _ => N5
  have hoff0 : OffL x dx y dy [(C, oC)] := by
    have a1 := l4 (x, accObj dx [] n1) (.head _)
    have a2 := l4 (dx, accDict w t1 t2) (.tail _ (.head _))
    have a3 := l4 (C, oC) (.tail _ (.tail _ (.head _)))
    have a4 := l2 (C, oC) (.head _)
    refine ⟨Nat.ne_of_gt l1, Nat.ne_of_lt (Nat.lt_trans a1 l3), Nat.ne_of_lt a1, Nat.ne_of_lt (Nat.lt_trans a2 l3), Nat.ne_of_lt a2, Nat.ne_of_gt l3, ?_⟩
    intro p hp
    rw [List.mem_singleton.mp hp]
    exact ⟨Nat.ne_of_lt (Nat.lt_trans a4 l1), Nat.ne_of_lt a4, Nat.ne_of_lt (Nat.lt_trans a3 l3), Nat.ne_of_lt a3⟩
  have N6 : News h₀ L _ (LedL w x dx y dy n1 n2 t1 t2 t3 t4 [] [] [(C, oC)]) := kst_newsOf N5 (by walk_at "S")
  clear N5 l1 l2 l3 l4
  refine for_rngG (hb := h₀) 0 2 3 s.os (fun i m nx => (∃ n1 n2 t1 t2 t3 t4 fs rest, nx = LedL w x dx y dy n1 n2 t1 t2 t3 t4 fs [] rest ∧ OffL x dx y dy rest ∧ HasP fs rest ∧ fs.map Pc.tx = pcs W i ∧ (C, oC) ∈ rest) ∧ ∀ p ∈ [(Str.ofString "aft", Value.ref y), (Str.ofString "fore", Value.ref x), (Str.ofString "size", Value.int (W.length : Nat) ts), (Str.ofString "word", Value.str (ofL W) tw), (Str.ofString "codes", Value.ref C)], m p.1 = some p.2) rfl rfl rfl ?iter ?turn ?done
  case iter =>
    repeat' (first | (k_unfold; (try dsimp only)) | ((fail_if_success (with_reducible show wpAny _ _ (exec (Stmt.While _ _ _ _) _) _ _ _)); (fail_if_success (with_reducible show wpAny _ _ (exec (Stmt.For _ _ _ _ _) _) _ _ _)); (fail_if_success (with_reducible show wpAny _ _ (pyIter _) _ _ _)); first | walk1 | (dsimp only; walk1)) | (leave1; (try dsimp only)))
    rename IsRange _ _ _ _ _ _ _ _ => R7
    rename Fr _ _ _ _ => F6
    rename News _ _ _ _ => N7
    refine RngIn.mk (s₁ := { s with heap := _, toks := _ }) R7 rs1 rs2 F6 N7 hG rfl ?_
    exact ⟨⟨n1, n2, t1, t2, t3, t4, [], _, rfl, hoff0, by simp [HasP], rfl, .head _⟩, by walk_at "K"⟩
  case turn =>
    rintro i m nx s' I t hi ⟨⟨n1, n2, t1, t2, t3, t4, fs, rest, rfl, hoff, hP, hfs, hC⟩, hm⟩ hI F6 N7 G7 os7
    clear F5 N6 hoff0
    have F7 := fr_loop [(Str.ofString "aft", Value.ref y), (Str.ofString "fore", Value.ref x), (Str.ofString "size", Value.int (W.length : Nat) ts), (Str.ofString "word", Value.str (ofL W) tw), (Str.ofString "codes", Value.ref C)] F6 hm
    clear F6
    simp only [Int.zero_add] at F7
    repeat' (first | (k_unfold; (try dsimp only)) | ((fail_if_success (with_reducible show wpAny _ _ (exec (Stmt.While _ _ _ _) _) _ _ _)); (fail_if_success (with_reducible show wpAny _ _ (exec (Stmt.For _ _ _ _ _) _) _ _ _)); (fail_if_success (with_reducible show wpAny _ _ (pyIter _) _ _ _)); first | walk1 | (dsimp only; walk1)) | (leave1; (try dsimp only)))
    rename Fr _ _ _ _ => F8
    rename News _ _ _ _ => N8
    refine acc_meth F8 X N8 (.tail _ (.head _)) (.tail _ (.tail _ (.head _))) (by k_is) (by k_is) (by kernel_rfl) ?_
    repeat' (first | (k_unfold; (try dsimp only)) | ((fail_if_success (with_reducible show wpAny _ _ (exec (Stmt.While _ _ _ _) _) _ _ _)); (fail_if_success (with_reducible show wpAny _ _ (exec (Stmt.For _ _ _ _ _) _) _ _ _)); (fail_if_success (with_reducible show wpAny _ _ (pyIter _) _ _ _)); first | walk1 | (dsimp only; walk1)) | (leave1; (try dsimp only)))
    rename Fr _ _ _ _ => F9
    rename News _ _ _ _ => N9
    have ek0 : (i : Int) * 2 = ((2 * i : Nat) : Int) := by omega
    have ek1 : (i : Int) * 2 + 1 = ((2 * i + 1 : Nat) : Int) := by omega
    have ek2 : (i : Int) * 2 + 2 = ((2 * i + 2 : Nat) : Int) := by omega
    rw [ek1, ek2, ek0, item_ofL, slice_mid]
    rw [show 2 * i + 2 - (2 * i + 1) = 1 from by omega]
    have N10 : News h₀ _ _ ((x, accObj dx (pcVals fs) n1) :: (dx, accDict w t1 t2) :: ((y, accObj dy (pcVals []) n2) :: (dy, accDict w t3 t4) :: (I, itObj (0 + ((i + 1 : Nat) : Int) * 2) (((3 : Nat) : Int) - ((i + 1 : Nat) : Int)) 2) :: rest)) := kst_newsOf N9 (by walk_at "S")
    obtain ⟨o1, o2, o3, o4, o5, o6, o7⟩ := hoff
    have hxI : x ≠ I := hI (x, _) (.head _)
    have hfl : fs.length = i := by have := congrArg List.length hfs; simpa [pcs] using this
    refine push_ct w p loose mean mg mb _ x dx (pcVals fs) n1 t1 t2 _ _ _ _ ?hx (Ne.symm o1) (by simp; omega) dp un gd _ _ _ _ _ _ _ _ _ _ _ _ _ _ B F9 X N10 T rfl (by omega) (by omega) ?_
    case hx =>
      intro q hq
      simp only [List.mem_cons] at hq
      rcases hq with rfl | rfl | rfl | hq
      · exact Ne.symm o2
      · exact Ne.symm o3
      · exact Ne.symm hxI
      · exact (o7 q hq).1
    rintro v5 h5 tk5 news5 ⟨rfl, T5, rfl, hT5⟩ F5 N5
    clear F9 N9 N10
    dsimp only
    repeat' (first | (k_unfold; (try dsimp only)) | ((fail_if_success (with_reducible show wpAny _ _ (exec (Stmt.While _ _ _ _) _) _ _ _)); (fail_if_success (with_reducible show wpAny _ _ (exec (Stmt.For _ _ _ _ _) _) _ _ _)); (fail_if_success (with_reducible show wpAny _ _ (pyIter _) _ _ _)); first | walk1 | (dsimp only; walk1)) | (leave1; (try dsimp only)))
    rename Fr _ _ _ _ => F9
    rename News _ _ _ _ => N9
    have hT5I : I ≠ T5 := Nat.ne_of_lt (hT5 (I, _) (.tail _ (.tail _ (.tail _ (.tail _ (.head _))))))
    have hT5r : ∀ q ∈ rest, q.1 < T5 := fun q hq => hT5 q (.tail _ (.tail _ (.tail _ (.tail _ (.tail _ hq)))))
    have t5x : x < T5 := hT5 (x, _) (.head _)
    have t5d : dx < T5 := hT5 (dx, _) (.tail _ (.head _))
    have t5y : y < T5 := hT5 (y, _) (.tail _ (.tail _ (.head _)))
    have t5e : dy < T5 := hT5 (dy, _) (.tail _ (.tail _ (.tail _ (.head _))))
    obtain ⟨tb9, N9⟩ : ∃ tb9, News h₀ _ _ ((x, accObj dx (pcVals fs ++ [.ref T5]) (n1 + 1)) :: (T5, tupObj (.str (ofL [W.getD (2 * i) 0]) s'.toks) (.str (ofL ((W.drop (2 * i + 1)).take 1)) tb9)) :: (dx, accDict w t1 t2) :: _) := ⟨_, N9⟩
    let pc : Pc := ⟨T5, [W.getD (2 * i) 0], s'.toks, (W.drop (2 * i + 1)).take 1, tb9⟩
    refine RngTurn.mk (nx' := LedL w x dx y dy (n1 + 1) n2 t1 t2 t3 t4 (fs ++ [pc]) [] ((T5, pc.obj) :: rest)) F9 ?nn ?off ⟨⟨n1 + 1, n2, t1, t2, t3, t4, fs ++ [pc], (T5, pc.obj) :: rest, rfl, ⟨o1, o2, o3, o4, o5, o6, ?oo⟩, ?hp, ?hf, .tail _ hC⟩, by walk_at "K"⟩ G7 os7
    case nn =>
      refine kst_newsOf N9 ?_
      intro p hp
      simp only [LedL, List.mem_cons, pcVals, List.map_append, List.map_cons, List.map_nil] at hp ⊢
      rcases hp with h | h | h | h | h | h | h
      · exact .inr (.inr (.inr (.inr (.inr (.inl h)))))
      · exact .inl h
      · exact .inr (.inr (.inl h))
      · exact .inr (.inr (.inr (.inl h)))
      · exact .inr (.inr (.inr (.inr (.inl h))))
      · exact .inr (.inl h)
      · exact .inr (.inr (.inr (.inr (.inr (.inr h)))))
    case off =>
      intro p hp
      simp only [LedL, List.mem_cons] at hp
      rcases hp with rfl | rfl | rfl | rfl | rfl | hp
      · exact hI (x, accObj dx (pcVals fs) n1) (.head _)
      · exact hI (dx, accDict w t1 t2) (.tail _ (.head _))
      · exact hI (y, accObj dy (pcVals []) n2) (.tail _ (.tail _ (.head _)))
      · exact hI (dy, accDict w t3 t4) (.tail _ (.tail _ (.tail _ (.head _))))
      · exact Ne.symm hT5I
      · exact hI p (.tail _ (.tail _ (.tail _ (.tail _ hp))))
    case oo =>
      intro p hp
      rcases List.mem_cons.mp hp with rfl | hp
      · exact ⟨Nat.ne_of_gt t5x, Nat.ne_of_gt t5d, Nat.ne_of_gt t5y, Nat.ne_of_gt t5e⟩
      · exact o7 p hp
    case hp =>
      intro p hp
      rcases List.mem_append.mp hp with hp | hp
      · exact .tail _ (hP p hp)
      · rw [List.mem_singleton.mp hp]; exact .head _
    case hf =>
      rw [List.map_append, hfs]
      unfold pcs
      rw [List.range_succ, List.map_append]
      rfl
  case done =>
    rintro m nx s' ⟨⟨n1, n2, t1, t2, t3, t4, fs, rest, rfl, hoff, hP, hfs, hC⟩, hm⟩ F6 N7 G7 os7
    dsimp only
    repeat' (first | (k_unfold; (try dsimp only)) | ((fail_if_success (with_reducible show wpAny _ _ (exec (Stmt.While _ _ _ _) _) _ _ _)); (fail_if_success (with_reducible show wpAny _ _ (exec (Stmt.For _ _ _ _ _) _) _ _ _)); (fail_if_success (with_reducible show wpAny _ _ (pyIter _) _ _ _)); first | walk1 | (dsimp only; walk1)) | (leave1; (try dsimp only)))
    exact hQ _ _ _ _ ⟨rfl, x, dx, y, dy, n1, n2, t1, t2, t3, t4, fs, rest, rfl, hoff, hP, hfs, hC, hm⟩ F6 N7 G7 os7
set_option maxHeartbeats 4000000 in
theorem all9 (q9 : Vt9) : Sp9 q9 := by
  refine @eps_all Vt9 ne9 Sp9 ?_ q9
  have h := core9
  unfold w p loose mean mg mb C oC W tw ts dp un gd A₀ base h₀ L u s Q R at h
  exact h
end law_push_e
set_option maxHeartbeats 4000000 in
theorem law_push (w : World) (p : Program) (loose : List Str) (mean : ExcName → Option Value) (mg mb : Str → Option Value) (C : Addr) (oC : Obj) (W : List Nat) (h56 : W.length = 5 ∨ W.length = 6) (tw ts : Tok) : PieG w p loose mean mg mb 10 ((lawB.drop 5).take 3) (fun _ => True)
      (fun u => ∀ p ∈ [(Str.ofString "size", Value.int (W.length : Nat) ts), (Str.ofString "word", Value.str (ofL W) tw), (Str.ofString "codes", Value.ref C)], u p.1 = some p.2) [(C, oC)]
      (fun f m' news' => f = .next ∧ ∃ x dx y dy n1 n2 t1 t2 t3 t4 fs rest, news' = LedL w x dx y dy n1 n2 t1 t2 t3 t4 fs [] rest ∧ OffL x dx y dy rest ∧ HasP fs rest ∧ fs.map Pc.tx = pcs W 3 ∧ (C, oC) ∈ rest ∧
        ∀ p ∈ [(Str.ofString "aft", Value.ref y), (Str.ofString "fore", Value.ref x), (Str.ofString "size", Value.int (W.length : Nat) ts), (Str.ofString "word", Value.str (ofL W) tw), (Str.ofString "codes", Value.ref C)], m' p.1 = some p.2) := by
  intro dp un gd A₀ base h₀ L u s Q R
  have h := law_push_e.all9 (w, p, loose, mean, mg, mb, C, oC, W, tw, ts, dp, un, gd, A₀, base, h₀, L, u, s, Q, R)
  dsimp only [law_push_e.Sp9, law_push_e.St9] at h
  exact h h56
end Mine
end
section
open PySem PySem.W PyProof.Rows PySem.Calls PySem.Spec
namespace Mine
theorem cw0 {prog : Program} {w : World} {A : Around} {E : Value → Shared → Prop} {s : Shared} {h₀ : Heap} {L : Addr} {m : Str → Option Value} {env : Env} {pos : Pos} {f : Addr} {o : Obj} {fd : FuncData} {first : List Value} {Q : Value → Shared → Prop} (F : Fr h₀ L s.heap m) (X : (hd.heap_39 w.params).In h₀) (ho : (hd.heap_39 w.params).lookup f = some o) (hd : o.data = .func fd)
    (h : wpAny (model prog w) A (call (.ref f) first) Q E s) : wpAny (model prog w) A (callWith pos (.ref f) first (backTo pos (starEach [] env)) []) Q E s :=
  callWith_meth0 hd (F.keep _ _ (X _ _ ho)) h
theorem cw2 {prog : Program} {w : World} {A : Around} {E : Value → Shared → Prop} {s : Shared} {h₀ : Heap} {env : Env} {pos : Pos} {f : Addr} {o : Obj} {fd : FuncData} {first : List Value} {e1 e2 : PySem.Expr} {Q : Value → Shared → Prop} (X : (hd.heap_39 w.params).In h₀) (ho : (hd.heap_39 w.params).lookup f = some o) (hd : o.data = .func fd)
    (h : wpAny (model prog w) A (eval e1 env) (fun v1 s₁ => wpAny (model prog w) A (eval e2 env) (fun v2 s₂ => (∀ b o, h₀.get? b = some o → s₂.heap.get? b = some o) ∧ wpAny (model prog w) A (call (.ref f) (first ++ [v1, v2])) Q E s₂) E s₁) E s)
    (he1 : starEach [e1, e2] env = (false, eval e1 env) :: starEach [e2] env := by rfl) (he2 : starEach [e2] env = (false, eval e2 env) :: starEach [] env := by rfl) :
    wpAny (model prog w) A (callWith pos (.ref f) first (backTo pos (starEach [e1, e2] env)) []) Q E s := by
  refine callWith_meth hd (X _ _ ho) ?_ he1
  refine wpAny_items_cons (wpAny_mono h (fun v1 s₁ h1 => wpAny_items_cons (wpAny_mono h1 (fun v2 s₂ h2 => wpAny_items_nil h2) fun _ _ z => z) he2) fun _ _ z => z) he1
set_option maxRecDepth 100000 in
set_option maxHeartbeats 8000000 in
/-- line 154: the first str() -/
theorem law_str1 (w : World) (p : Program) (loose : List Str) (mean : ExcName → Option Value) (mg mb : Str → Option Value) (P x dx y dy : Addr) (n1 n2 : Nat) (t1 t2 t3 t4 : Tok) (fs : List Pc) (rest : CbLed) (W : List Nat) (tw : Tok) (hP : HasP fs rest) (hlen : ∀ p ∈ fs, p.a.length ≤ 100 ∧ p.b.length ≤ 100) (hW : flatP fs = W) (hW6 : W.length ≤ 6) (hcnt : fs.length ≤ 1000)
    : ∀ (dp un : Nat) (gd : Option (List Code)) (A₀ : Around) (base h₀ : Heap) (L : Addr) (u : Str → Option Value) (s : Shared) (Q : Flow → Shared → Prop) (R : Result → Shared → Prop), Below A₀ base [] h₀ → Fr h₀ L s.heap u → (∀ p ∈ [(Str.ofString "fore", Value.ref x), (Str.ofString "word", Value.str (ofL W) tw)], u p.1 = some p.2) →
    (hd.heap_39 w.params).In h₀ → News h₀ L s.heap (LedL w x dx y dy n1 n2 t1 t2 t3 t4 fs [] rest) → Top p loose mean mg mb h₀ → AllBare s.gens → h₀.IsCode 95 P #[] → h₀.TableAt 95 P #[] → P ≠ cStatics → dp + 6 < recursionLimit → un + 60 < cLine →
    (∀ c' s' hR, hR = regrown h₀ P (#[] ++ #[rawInt gPos.line, rawInt gPos.col, .ref c']) → Based h₀ hR 95 P (#[] ++ #[rawInt gPos.line, rawInt gPos.col, .ref c']) → Fr hR L s'.heap u → News hR L s'.heap (LedL w x dx y dy n1 n2 t1 t2 t3 t4 fs [] rest) → AllBare s'.gens → s'.os = s.os → Q .next s') →
    wpAny (model P0 w) (ktrTop dp un gd (Str.ofString "law") lawS L 141 (.ref 140) [] []) (execs ((lawB.drop 8).take 1) (envOf (Str.ofString "law") lawS L 141 (.ref 140))) Q
        (fun e s' => wpAny (model P0 w) (ktrTop dp un gd (Str.ofString "law") lawS L 141 (.ref 140) [] []) (leaving (envOf (Str.ofString "law") lawS L 141 (.ref 140)) e) (fun _ s'' => R (.error e) s'') (fun e' s'' => R (.error e') s'') s') s := by
  unfold P0
  k_fill
  intro dp un gd A₀ base h₀ L u s Q R B Fu hm X N T G hC hT hPc hdp hu hQ
  have F1 := fr_norm _ Fu hm
  clear Fu
  show wpAny (model Challenge.rw_sn0024_01.row.prog w) _ (execs [_] _) _ _ _
  repeat' (first | (k_unfold; (try dsimp only)) | ((fail_if_success (with_reducible show wpAny _ _ (exec (Stmt.While _ _ _ _) _) _ _ _)); (fail_if_success (with_reducible show wpAny _ _ (exec (Stmt.For _ _ _ _ _) _) _ _ _)); (fail_if_success (with_reducible show wpAny _ _ (pyIter _) _ _ _)); (fail_if_success (with_reducible show wpAny _ _ (call (Value.type "str") _) _ _ _)); first | walk1 | (dsimp only; walk1)) | (leave1; (try dsimp only)))
  rename Fr _ _ _ _ => F2
  rename News _ _ _ _ => N2
  refine str_new (ps := fs) F2 X N2 T hC hT (by decide) hPc G (.head _) (.tail _ (.head _)) (fun p hp => .tail _ (.tail _ (.tail _ (.tail _ (hP p hp))))) hlen (by rw [hW]; omega) hcnt ?_ ?_ ?_ ?_
  · dsimp only [Around.in1]
    omega
  · rfl
  · dsimp only [Around.in1]
    omega
  intro c' t s' hR hRe hB F3 N3 G3 os3
  rw [hW]
  clear F2 N2
  have Xr : (hd.heap_39 w.params).In hR := by
    rw [hRe]
    exact kb_in_regrown (Based.start hC hT hPc) X T.g (by kernel_rfl)
  have eu : kstB u [(Str.ofString "fore", Value.ref x), (Str.ofString "word", Value.str (ofL W) tw)] = u := funext fun y => kstB_eq hm fun _ => rfl
  repeat' (first | (k_unfold; (try dsimp only)) | ((fail_if_success (with_reducible show wpAny _ _ (exec (Stmt.While _ _ _ _) _) _ _ _)); (fail_if_success (with_reducible show wpAny _ _ (exec (Stmt.For _ _ _ _ _) _) _ _ _)); (fail_if_success (with_reducible show wpAny _ _ (pyIter _) _ _ _)); (fail_if_success (with_reducible show wpAny _ _ (call (Value.type "str") _) _ _ _)); first | walk1 | (dsimp only; walk1)) | (leave1; (try dsimp only)))
  · exact absurd ‹(ofL W != ofL W) = true› (by simp)
  · rw [eu] at F3
    exact hQ c' s' hR hRe hB F3 N3 G3 os3
end Mine
end
section
open PySem PySem.W PyProof.Rows PySem.Calls PySem.Spec
namespace Mine
def flT (l : List (List Nat × List Nat)) : List Nat := (l.map fun p => p.1 ++ p.2).flatten
def triT (fs : List (List Nat × List Nat)) (p : List Nat × List Nat) (qs : List (List Nat × List Nat)) : List (List Nat × List Nat × List Nat) :=
  [(flT (fs ++ [p]), [], flT qs), (flT fs ++ p.1, p.2, flT qs), (flT fs ++ p.1, [], flT qs ++ p.2), (flT fs, p.1, flT qs ++ p.2)]
theorem flatP_tx (ps : List Pc) : flatP ps = flT (ps.map Pc.tx) := by
  unfold flatP flT
  rw [List.map_map]; rfl
def loopB : List Stmt := match lawB.getD 11 (.Pass default) with
  | .For _ _ body _ _ => body
  | _ => []
def HbC (P : Addr) (h : Heap) : Prop := P ≠ cStatics ∧ ∃ pv c', h.IsCode 95 P pv ∧ h.TableAt 95 P pv ∧ codeAmong gPos pv.toList = some c'
/-- pieces of at most five signs a side -/
def PsOk (n : Nat) (l : List Pc) : Prop := l.length ≤ n ∧ ∀ p ∈ l, p.a.length ≤ 5 ∧ p.b.length ≤ 5
theorem PsOk.flat {n : Nat} {l : List Pc} (h : PsOk n l) : (flatP l).length ≤ 10 * n := by
  obtain ⟨h1, h2⟩ := h
  have e : (flatP l).length ≤ 10 * l.length := by
    clear h1
    induction l with
    | nil => simp [flatP]
    | cons p l ih =>
      have h3 := h2 p (.head _)
      have h4 := ih fun q hq => h2 q (.tail _ hq)
      have e : flatP (p :: l) = (p.a ++ p.b) ++ flatP l := rfl
      rw [e, List.length_append, List.length_append, List.length_cons]
      omega
  omega
theorem str_hitB {w : World} {A : Around} {E : Value → Shared → Prop} {s : Shared} {x P dx : Addr} {mg : Str → Option Value} {n k : Nat} {ps : List Pc} {prog : Program} {h₀ : Heap} {L : Addr} {m mb : Str → Option Value} {news : CbLed} {p : Program} {loose : List Str} {mean : ExcName → Option Value} {t1 t2 : Tok} {Q : Value → Shared → Prop} (F : Fr h₀ L s.heap m) (X : (hd.heap_39 w.params).In h₀) (N : News h₀ L s.heap news) (T : Top p loose mean mg mb h₀) (hb : HbC P h₀) (G : AllBare s.gens)
    (h1 : (x, accObj dx (pcVals ps) n) ∈ news) (h2 : (dx, accDict w t1 t2) ∈ news) (ht : ∀ p ∈ ps, (p.T, p.obj) ∈ news) (hok : PsOk k ps) (hk : k ≤ 10)
    (hu : A.in1.in1.units < cLine) (hh : A.in1.in1.handled = none) (hroom : A.in1.in1.depth + 1 < recursionLimit)
    (hq : ∀ t s', Fr h₀ L s'.heap m → News h₀ L s'.heap news → AllBare s'.gens → s'.os = s.os → Q (.str (ofL (flatP ps)) t) s') : wpAny (model prog w) A (call (.type "str") [.ref x]) Q E s := by
  obtain ⟨hPc, pv, c', hC, hT, hf⟩ := hb
  have hfl := hok.flat
  exact str_hit F X N T hC hT hf hPc G h1 h2 ht (fun p hp => ⟨Nat.le_trans (hok.2 p hp).1 (by decide), Nat.le_trans (hok.2 p hp).2 (by decide)⟩) (by omega) (by have := hok.1; omega) hu hh hroom hq
namespace law_texts_e
def St9 (w : World) (p : Program) (loose : List Str) (mean : ExcName → Option Value) (mg : Str → Option Value) (mb : Str → Option Value) (P : Addr) (x : Addr) (dx : Addr) (y : Addr) (dy : Addr) (n1 : Nat) (n2 : Nat) (t1 : Tok) (t2 : Tok) (t3 : Tok) (t4 : Tok) (A : List Pc) (qs : List Pc) (q : Pc) (rest : CbLed) (D1 : Addr) (D2 : Addr) (N : Nat) (ts : Tok) (W : List Nat) (tw : Tok) (C : Addr) (dp : Nat) (un : Nat) (gd : Option (List Code)) (A₀ : Around) (base : Heap) (h₀ : Heap) (L : Addr) (u : Str → Option Value) (s : Shared) (Q : Flow → Shared → Prop) (R : Result → Shared → Prop) : Prop :=
  (OffL x dx y dy rest) → (HasP (A ++ [q]) rest) → (HasP qs rest) → (PsOk 4 (A ++ [q])) → (PsOk 4 qs) → (PsOk 4 A) → PieGB w p loose mean mg mb 16 (loopB.take 6) (HbC P)
      (fun u => ∀ p ∈ [(Str.ofString "mended", Value.ref D2), (Str.ofString "told", Value.ref D1), (Str.ofString "aft", Value.ref y), (Str.ofString "fore", Value.ref x), (Str.ofString "size", Value.int (N : Nat) ts), (Str.ofString "word", Value.str (ofL W) tw), (Str.ofString "codes", Value.ref C)], u p.1 = some p.2) (LedL w x dx y dy n1 n2 t1 t2 t3 t4 (A ++ [q]) qs rest)
      (fun f m' news' => f = .next ∧ news' = LedL w x dx y dy (n1 + 1) n2 t1 t2 t3 t4 A qs rest ∧ ∃ a1 a2 a3 a4 a5, ∀ p ∈ [(Str.ofString "beyond", Value.str (ofL (flatP qs ++ q.b)) a1), (Str.ofString "near", Value.str (ofL (flatP A ++ q.a)) a2), (Str.ofString "rest", Value.str (ofL (flatP A)) a3), (Str.ofString "part", Value.str (ofL q.b) q.tb), (Str.ofString "blanks", Value.str (ofL q.a) q.ta), (Str.ofString "behind", Value.str (ofL (flatP qs)) a4), (Str.ofString "front", Value.str (ofL (flatP (A ++ [q]))) a5), (Str.ofString "mended", Value.ref D2), (Str.ofString "told", Value.ref D1), (Str.ofString "aft", Value.ref y), (Str.ofString "fore", Value.ref x), (Str.ofString "size", Value.int (N : Nat) ts), (Str.ofString "word", Value.str (ofL W) tw), (Str.ofString "codes", Value.ref C)], m' p.1 = some p.2) dp un gd A₀ base h₀ L u s Q R
abbrev Vt9 : Type := World × Program × (List Str) × (ExcName → Option Value) × (Str → Option Value) × (Str → Option Value) × Addr × Addr × Addr × Addr × Addr × Nat × Nat × Tok × Tok × Tok × Tok × (List Pc) × (List Pc) × Pc × CbLed × Addr × Addr × Nat × Tok × (List Nat) × Tok × Addr × Nat × Nat × (Option (List Code)) × Around × Heap × Heap × Addr × (Str → Option Value) × Shared × (Flow → Shared → Prop) × (Result → Shared → Prop)
theorem ne9 : Nonempty Vt9 := by
  obtain ⟨w0⟩ := neW
  exact ⟨w0, default, [], (fun _ => none), (fun _ => none), (fun _ => none), 0, 0, 0, 0, 0, 0, 0, 0, 0, 0, 0, [], [], ⟨0, [], 0, [], 0⟩, [], 0, 0, 0, 0, [], 0, 0, 0, 0, none, callerA, {}, {}, 0, (fun _ => none), {}, (fun _ _ => True), (fun _ _ => True)⟩
def Sp9 (t : Vt9) : Prop := St9 (t.1) (t.2.1) (t.2.2.1) (t.2.2.2.1) (t.2.2.2.2.1) (t.2.2.2.2.2.1) (t.2.2.2.2.2.2.1) (t.2.2.2.2.2.2.2.1) (t.2.2.2.2.2.2.2.2.1) (t.2.2.2.2.2.2.2.2.2.1) (t.2.2.2.2.2.2.2.2.2.2.1) (t.2.2.2.2.2.2.2.2.2.2.2.1) (t.2.2.2.2.2.2.2.2.2.2.2.2.1) (t.2.2.2.2.2.2.2.2.2.2.2.2.2.1) (t.2.2.2.2.2.2.2.2.2.2.2.2.2.2.1) (t.2.2.2.2.2.2.2.2.2.2.2.2.2.2.2.1) (t.2.2.2.2.2.2.2.2.2.2.2.2.2.2.2.2.1) (t.2.2.2.2.2.2.2.2.2.2.2.2.2.2.2.2.2.1) (t.2.2.2.2.2.2.2.2.2.2.2.2.2.2.2.2.2.2.1) (t.2.2.2.2.2.2.2.2.2.2.2.2.2.2.2.2.2.2.2.1) (t.2.2.2.2.2.2.2.2.2.2.2.2.2.2.2.2.2.2.2.2.1) (t.2.2.2.2.2.2.2.2.2.2.2.2.2.2.2.2.2.2.2.2.2.1) (t.2.2.2.2.2.2.2.2.2.2.2.2.2.2.2.2.2.2.2.2.2.2.1) (t.2.2.2.2.2.2.2.2.2.2.2.2.2.2.2.2.2.2.2.2.2.2.2.1) (t.2.2.2.2.2.2.2.2.2.2.2.2.2.2.2.2.2.2.2.2.2.2.2.2.1) (t.2.2.2.2.2.2.2.2.2.2.2.2.2.2.2.2.2.2.2.2.2.2.2.2.2.1) (t.2.2.2.2.2.2.2.2.2.2.2.2.2.2.2.2.2.2.2.2.2.2.2.2.2.2.1) (t.2.2.2.2.2.2.2.2.2.2.2.2.2.2.2.2.2.2.2.2.2.2.2.2.2.2.2.1) (t.2.2.2.2.2.2.2.2.2.2.2.2.2.2.2.2.2.2.2.2.2.2.2.2.2.2.2.2.1) (t.2.2.2.2.2.2.2.2.2.2.2.2.2.2.2.2.2.2.2.2.2.2.2.2.2.2.2.2.2.1) (t.2.2.2.2.2.2.2.2.2.2.2.2.2.2.2.2.2.2.2.2.2.2.2.2.2.2.2.2.2.2.1) (t.2.2.2.2.2.2.2.2.2.2.2.2.2.2.2.2.2.2.2.2.2.2.2.2.2.2.2.2.2.2.2.1) (t.2.2.2.2.2.2.2.2.2.2.2.2.2.2.2.2.2.2.2.2.2.2.2.2.2.2.2.2.2.2.2.2.1) (t.2.2.2.2.2.2.2.2.2.2.2.2.2.2.2.2.2.2.2.2.2.2.2.2.2.2.2.2.2.2.2.2.2.1) (t.2.2.2.2.2.2.2.2.2.2.2.2.2.2.2.2.2.2.2.2.2.2.2.2.2.2.2.2.2.2.2.2.2.2.1) (t.2.2.2.2.2.2.2.2.2.2.2.2.2.2.2.2.2.2.2.2.2.2.2.2.2.2.2.2.2.2.2.2.2.2.2.1) (t.2.2.2.2.2.2.2.2.2.2.2.2.2.2.2.2.2.2.2.2.2.2.2.2.2.2.2.2.2.2.2.2.2.2.2.2.1) (t.2.2.2.2.2.2.2.2.2.2.2.2.2.2.2.2.2.2.2.2.2.2.2.2.2.2.2.2.2.2.2.2.2.2.2.2.2.1) (t.2.2.2.2.2.2.2.2.2.2.2.2.2.2.2.2.2.2.2.2.2.2.2.2.2.2.2.2.2.2.2.2.2.2.2.2.2.2)
noncomputable def c9 : Vt9 := @Classical.epsilon Vt9 ne9 fun t => ¬ Sp9 t
@[irreducible] noncomputable def w : World := c9.1
@[irreducible] noncomputable def p : Program := c9.2.1
@[irreducible] noncomputable def loose : List Str := c9.2.2.1
@[irreducible] noncomputable def mean : ExcName → Option Value := c9.2.2.2.1
@[irreducible] noncomputable def mg : Str → Option Value := c9.2.2.2.2.1
@[irreducible] noncomputable def mb : Str → Option Value := c9.2.2.2.2.2.1
@[irreducible] noncomputable def P : Addr := c9.2.2.2.2.2.2.1
@[irreducible] noncomputable def x : Addr := c9.2.2.2.2.2.2.2.1
@[irreducible] noncomputable def dx : Addr := c9.2.2.2.2.2.2.2.2.1
@[irreducible] noncomputable def y : Addr := c9.2.2.2.2.2.2.2.2.2.1
@[irreducible] noncomputable def dy : Addr := c9.2.2.2.2.2.2.2.2.2.2.1
@[irreducible] noncomputable def n1 : Nat := c9.2.2.2.2.2.2.2.2.2.2.2.1
@[irreducible] noncomputable def n2 : Nat := c9.2.2.2.2.2.2.2.2.2.2.2.2.1
@[irreducible] noncomputable def t1 : Tok := c9.2.2.2.2.2.2.2.2.2.2.2.2.2.1
@[irreducible] noncomputable def t2 : Tok := c9.2.2.2.2.2.2.2.2.2.2.2.2.2.2.1
@[irreducible] noncomputable def t3 : Tok := c9.2.2.2.2.2.2.2.2.2.2.2.2.2.2.2.1
@[irreducible] noncomputable def t4 : Tok := c9.2.2.2.2.2.2.2.2.2.2.2.2.2.2.2.2.1
@[irreducible] noncomputable def A : List Pc := c9.2.2.2.2.2.2.2.2.2.2.2.2.2.2.2.2.2.1
@[irreducible] noncomputable def qs : List Pc := c9.2.2.2.2.2.2.2.2.2.2.2.2.2.2.2.2.2.2.1
@[irreducible] noncomputable def q : Pc := c9.2.2.2.2.2.2.2.2.2.2.2.2.2.2.2.2.2.2.2.1
@[irreducible] noncomputable def rest : CbLed := c9.2.2.2.2.2.2.2.2.2.2.2.2.2.2.2.2.2.2.2.2.1
@[irreducible] noncomputable def D1 : Addr := c9.2.2.2.2.2.2.2.2.2.2.2.2.2.2.2.2.2.2.2.2.2.1
@[irreducible] noncomputable def D2 : Addr := c9.2.2.2.2.2.2.2.2.2.2.2.2.2.2.2.2.2.2.2.2.2.2.1
@[irreducible] noncomputable def N : Nat := c9.2.2.2.2.2.2.2.2.2.2.2.2.2.2.2.2.2.2.2.2.2.2.2.1
@[irreducible] noncomputable def ts : Tok := c9.2.2.2.2.2.2.2.2.2.2.2.2.2.2.2.2.2.2.2.2.2.2.2.2.1
@[irreducible] noncomputable def W : List Nat := c9.2.2.2.2.2.2.2.2.2.2.2.2.2.2.2.2.2.2.2.2.2.2.2.2.2.1
@[irreducible] noncomputable def tw : Tok := c9.2.2.2.2.2.2.2.2.2.2.2.2.2.2.2.2.2.2.2.2.2.2.2.2.2.2.1
@[irreducible] noncomputable def C : Addr := c9.2.2.2.2.2.2.2.2.2.2.2.2.2.2.2.2.2.2.2.2.2.2.2.2.2.2.2.1
@[irreducible] noncomputable def dp : Nat := c9.2.2.2.2.2.2.2.2.2.2.2.2.2.2.2.2.2.2.2.2.2.2.2.2.2.2.2.2.1
@[irreducible] noncomputable def un : Nat := c9.2.2.2.2.2.2.2.2.2.2.2.2.2.2.2.2.2.2.2.2.2.2.2.2.2.2.2.2.2.1
@[irreducible] noncomputable def gd : Option (List Code) := c9.2.2.2.2.2.2.2.2.2.2.2.2.2.2.2.2.2.2.2.2.2.2.2.2.2.2.2.2.2.2.1
@[irreducible] noncomputable def A₀ : Around := c9.2.2.2.2.2.2.2.2.2.2.2.2.2.2.2.2.2.2.2.2.2.2.2.2.2.2.2.2.2.2.2.1
@[irreducible] noncomputable def base : Heap := c9.2.2.2.2.2.2.2.2.2.2.2.2.2.2.2.2.2.2.2.2.2.2.2.2.2.2.2.2.2.2.2.2.1
@[irreducible] noncomputable def h₀ : Heap := c9.2.2.2.2.2.2.2.2.2.2.2.2.2.2.2.2.2.2.2.2.2.2.2.2.2.2.2.2.2.2.2.2.2.1
@[irreducible] noncomputable def L : Addr := c9.2.2.2.2.2.2.2.2.2.2.2.2.2.2.2.2.2.2.2.2.2.2.2.2.2.2.2.2.2.2.2.2.2.2.1
@[irreducible] noncomputable def u : Str → Option Value := c9.2.2.2.2.2.2.2.2.2.2.2.2.2.2.2.2.2.2.2.2.2.2.2.2.2.2.2.2.2.2.2.2.2.2.2.1
@[irreducible] noncomputable def s : Shared := c9.2.2.2.2.2.2.2.2.2.2.2.2.2.2.2.2.2.2.2.2.2.2.2.2.2.2.2.2.2.2.2.2.2.2.2.2.1
@[irreducible] noncomputable def Q : Flow → Shared → Prop := c9.2.2.2.2.2.2.2.2.2.2.2.2.2.2.2.2.2.2.2.2.2.2.2.2.2.2.2.2.2.2.2.2.2.2.2.2.2.1
@[irreducible] noncomputable def R : Result → Shared → Prop := c9.2.2.2.2.2.2.2.2.2.2.2.2.2.2.2.2.2.2.2.2.2.2.2.2.2.2.2.2.2.2.2.2.2.2.2.2.2.2
set_option maxRecDepth 100000 in
set_option maxHeartbeats 8000000 in
theorem core9 : St9 w p loose mean mg mb P x dx y dy n1 n2 t1 t2 t3 t4 A qs q rest D1 D2 N ts W tw C dp un gd A₀ base h₀ L u s Q R := by
  unfold St9 PieGB P0
  k_fill
  intro hoff hA hQs l1 l2 l3 B F hm hb X N0 T hG hdp hun hQ
  have F1 := fr_norm _ F hm
  clear F hm
  have g1 := l1.flat
  have g2 := l2.flat
  have g3 := l3.flat
  have gq := l1.2 q (List.mem_append_right _ (.head _))
  show wpAny (model Challenge.rw_sn0024_01.row.prog w) _ (execs [_, _, _, _, _, _] _) _ _ _
  repeat' (first | (k_unfold; (try dsimp only)) | ((fail_if_success (with_reducible show wpAny _ _ (exec (Stmt.While _ _ _ _) _) _ _ _)); (fail_if_success (with_reducible show wpAny _ _ (exec (Stmt.For _ _ _ _ _) _) _ _ _)); (fail_if_success (with_reducible show wpAny _ _ (pyIter _) _ _ _)); (fail_if_success (with_reducible show wpAny _ _ (call (Value.type "str") _) _ _ _)); (fail_if_success (with_reducible show wpAny _ _ (getMethod (Value.ref _) _ _) _ _ _)); first | walk1 | (dsimp only; walk1)) | (leave1; (try dsimp only)))
  rename Fr _ _ _ _ => F2
  rename News _ _ _ _ => N2
  refine str_hitB (ps := A ++ [q]) F2 X N2 T hb hG (.head _) (.tail _ (.head _)) (fun p hp => .tail _ (.tail _ (.tail _ (.tail _ (hA p hp))))) l1 (by decide) ?_ ?_ ?_ ?_
  · dsimp only [Around.in1]
    omega
  · rfl
  · dsimp only [Around.in1]
    omega
  intro tf s2 F3 N3 G3 os3
  clear F2 N2
  repeat' (first | (k_unfold; (try dsimp only)) | ((fail_if_success (with_reducible show wpAny _ _ (exec (Stmt.While _ _ _ _) _) _ _ _)); (fail_if_success (with_reducible show wpAny _ _ (exec (Stmt.For _ _ _ _ _) _) _ _ _)); (fail_if_success (with_reducible show wpAny _ _ (pyIter _) _ _ _)); (fail_if_success (with_reducible show wpAny _ _ (call (Value.type "str") _) _ _ _)); (fail_if_success (with_reducible show wpAny _ _ (getMethod (Value.ref _) _ _) _ _ _)); first | walk1 | (dsimp only; walk1)) | (leave1; (try dsimp only)))
  rename Fr _ _ _ _ => F2
  rename News _ _ _ _ => N2
  refine str_hitB (ps := qs) F2 X N2 T hb G3 (.tail _ (.tail _ (.head _))) (.tail _ (.tail _ (.tail _ (.head _)))) (fun p hp => .tail _ (.tail _ (.tail _ (.tail _ (hQs p hp))))) l2 (by decide) ?_ ?_ ?_ ?_
  · dsimp only [Around.in1]
    omega
  · rfl
  · dsimp only [Around.in1]
    omega
  intro tb s3 F4 N4 G4 os4
  clear F2 N2
  repeat' (first | (k_unfold; (try dsimp only)) | ((fail_if_success (with_reducible show wpAny _ _ (exec (Stmt.While _ _ _ _) _) _ _ _)); (fail_if_success (with_reducible show wpAny _ _ (exec (Stmt.For _ _ _ _ _) _) _ _ _)); (fail_if_success (with_reducible show wpAny _ _ (pyIter _) _ _ _)); (fail_if_success (with_reducible show wpAny _ _ (call (Value.type "str") _) _ _ _)); (fail_if_success (with_reducible show wpAny _ _ (getMethod (Value.ref _) _ _) _ _ _)); first | walk1 | (dsimp only; walk1)) | (leave1; (try dsimp only)))
  rename Fr _ _ _ _ => F2
  rename News _ _ _ _ => N2
  refine acc_meth F2 X N2 (.head _) (.tail _ (.head _)) (by k_is) (by k_is) (by kernel_rfl) ?_
  dsimp only
  refine cw0 F2 X rfl rfl ?_
  rename Below _ _ _ _ => B2
  refine pop_ct w p loose mean mg mb ((y, accObj dy (pcVals qs) n2) :: (dy, accDict w t3 t4) :: rest) x dx (pcVals A) (.ref q.T) n1 t1 t2 ?hx (Ne.symm hoff.1) (by rw [List.length_map]; have := l3.1; omega) dp un gd _ _ _ _ _ _ _ _ _ _ _ _ _ _ B2 F2 X ?nn T rfl (by omega) (by omega) ?_
  case nn =>
    have e9 : pcVals (A ++ [q]) = pcVals A ++ [.ref q.T] := by unfold pcVals; rw [List.map_append]; rfl
    rw [← e9]
    exact N2
  case hx =>
    intro q hq
    obtain ⟨o1, o2, o3, o4, o5, o6, o7⟩ := hoff
    rcases List.mem_cons.mp hq with rfl | hq
    · exact Ne.symm o2
    · rcases List.mem_cons.mp hq with rfl | hq
      · exact Ne.symm o3
      · exact (o7 q hq).1
  rintro v5 h5 tk5 news5 ⟨rfl, rfl⟩ F5 N5
  clear F2 N2
  have hq9 : (q.T, q.obj) ∈ rest := hA q (List.mem_append_right _ (.head _))
  have hT9 : h5.IsTuple q.T #[.str (ofL q.a) q.ta, .str (ofL q.b) q.tb] := ⟨_, (N5 (q.T, q.obj) (.tail _ (.tail _ (.tail _ (.tail _ hq9))))).1, rfl, _, rfl⟩
  refine wpAny_assign_Tuple (by rfl) hT9 rfl rfl fun h6 hx6 => ?_
  have k6 : ∀ b o, h5.get? b = some o → h6.get? b = some o := fun b o e => hx6 b o (Nat.ne_of_lt (Heap.lt_size e)) e
  have F6 := F5.keeps k6
  have N6 : News h₀ L h6 _ := fun p hp => ⟨k6 _ _ (N5 p hp).1, (N5 p hp).2⟩
  clear F5 N5 hT9 hx6 k6
  show wpAny _ _ (do holding [_] (assign (.Name (Str.ofString "blanks") _) _ _); do holding [] (assign (.Name (Str.ofString "part") _) _ _); pure ()) _ _ _
  refine wpAny_bind (wpAny_holding (wpAny_assign_Name ?_))
  repeat' (first | (k_unfold; (try dsimp only)) | ((fail_if_success (with_reducible show wpAny _ _ (exec (Stmt.While _ _ _ _) _) _ _ _)); (fail_if_success (with_reducible show wpAny _ _ (exec (Stmt.For _ _ _ _ _) _) _ _ _)); (fail_if_success (with_reducible show wpAny _ _ (pyIter _) _ _ _)); (fail_if_success (with_reducible show wpAny _ _ (call (Value.type "str") _) _ _ _)); (fail_if_success (with_reducible show wpAny _ _ (getMethod (Value.ref _) _ _) _ _ _)); first | walk1 | (dsimp only; walk1)) | (leave1; (try dsimp only)))
  refine wpAny_bind (wpAny_holding (wpAny_assign_Name ?_))
  repeat' (first | (k_unfold; (try dsimp only)) | ((fail_if_success (with_reducible show wpAny _ _ (exec (Stmt.While _ _ _ _) _) _ _ _)); (fail_if_success (with_reducible show wpAny _ _ (exec (Stmt.For _ _ _ _ _) _) _ _ _)); (fail_if_success (with_reducible show wpAny _ _ (pyIter _) _ _ _)); (fail_if_success (with_reducible show wpAny _ _ (call (Value.type "str") _) _ _ _)); (fail_if_success (with_reducible show wpAny _ _ (getMethod (Value.ref _) _ _) _ _ _)); first | walk1 | (dsimp only; walk1)) | (leave1; (try dsimp only)))
  refine wpAny_pure ?_
  dsimp only
  repeat' (first | (k_unfold; (try dsimp only)) | ((fail_if_success (with_reducible show wpAny _ _ (exec (Stmt.While _ _ _ _) _) _ _ _)); (fail_if_success (with_reducible show wpAny _ _ (exec (Stmt.For _ _ _ _ _) _) _ _ _)); (fail_if_success (with_reducible show wpAny _ _ (pyIter _) _ _ _)); (fail_if_success (with_reducible show wpAny _ _ (call (Value.type "str") _) _ _ _)); (fail_if_success (with_reducible show wpAny _ _ (getMethod (Value.ref _) _ _) _ _ _)); first | walk1 | (dsimp only; walk1)) | (leave1; (try dsimp only)))
  rename Fr _ _ _ _ => F2
  rename News _ _ _ _ => N2
  have hA2 : HasP A rest := fun p hp => hA p (List.mem_append_left _ hp)
  refine str_hitB (ps := A) F2 X N2 T hb G4 (.head _) (.tail _ (.head _)) (fun p hp => .tail _ (.tail _ (.tail _ (.tail _ (hA2 p hp))))) l3 (by decide) ?_ ?_ ?_ ?_
  · dsimp only [Around.in1]
    omega
  · rfl
  · dsimp only [Around.in1]
    omega
  intro tr s4 F7 N7 G7 os7
  clear F2 N2
  have e1 : Str.length (ofL (flatP A)) ≤ 80 := by rw [ofL_len]; omega
  have e2 : Str.length (ofL q.a) ≤ 10 := by rw [ofL_len]; omega
  have e3 : Str.length (ofL (flatP qs)) ≤ 80 := by rw [ofL_len]; omega
  have e4 : Str.length (ofL q.b) ≤ 10 := by rw [ofL_len]; omega
  repeat' (first | (k_unfold; (try dsimp only)) | ((fail_if_success (with_reducible show wpAny _ _ (exec (Stmt.While _ _ _ _) _) _ _ _)); (fail_if_success (with_reducible show wpAny _ _ (exec (Stmt.For _ _ _ _ _) _) _ _ _)); (fail_if_success (with_reducible show wpAny _ _ (pyIter _) _ _ _)); (fail_if_success (with_reducible show wpAny _ _ (call (Value.type "str") _) _ _ _)); (fail_if_success (with_reducible show wpAny _ _ (getMethod (Value.ref _) _ _) _ _ _)); first | walk1 | (dsimp only; walk1)) | (leave1; (try dsimp only)))
  rename Fr _ _ _ _ => F8
  rename News _ _ _ _ => N8
  rw [ofL_app, ofL_app] at F8
  exact hQ _ _ _ _ ⟨rfl, rfl, _, _, _, _, _, by walk_at "K"⟩ F8 N8 G7 (os7.trans (os4.trans os3))
set_option maxHeartbeats 4000000 in
theorem all9 (q9 : Vt9) : Sp9 q9 := by
  refine @eps_all Vt9 ne9 Sp9 ?_ q9
  have h := core9
  unfold w p loose mean mg mb P x dx y dy n1 n2 t1 t2 t3 t4 A qs q rest D1 D2 N ts W tw C dp un gd A₀ base h₀ L u s Q R at h
  exact h
end law_texts_e
set_option maxHeartbeats 4000000 in
theorem law_texts (w : World) (p : Program) (loose : List Str) (mean : ExcName → Option Value) (mg mb : Str → Option Value) (P : Addr) (x dx y dy : Addr) (n1 n2 : Nat) (t1 t2 t3 t4 : Tok) (A qs : List Pc) (q : Pc) (rest : CbLed) (hoff : OffL x dx y dy rest) (hA : HasP (A ++ [q]) rest) (hQs : HasP qs rest)
    (l1 : PsOk 4 (A ++ [q])) (l2 : PsOk 4 qs) (l3 : PsOk 4 A) (D1 D2 : Addr) (N : Nat) (ts : Tok) (W : List Nat) (tw : Tok) (C : Addr) : PieG w p loose mean mg mb 16 (loopB.take 6) (HbC P)
      (fun u => ∀ p ∈ [(Str.ofString "mended", Value.ref D2), (Str.ofString "told", Value.ref D1), (Str.ofString "aft", Value.ref y), (Str.ofString "fore", Value.ref x), (Str.ofString "size", Value.int (N : Nat) ts), (Str.ofString "word", Value.str (ofL W) tw), (Str.ofString "codes", Value.ref C)], u p.1 = some p.2) (LedL w x dx y dy n1 n2 t1 t2 t3 t4 (A ++ [q]) qs rest)
      (fun f m' news' => f = .next ∧ news' = LedL w x dx y dy (n1 + 1) n2 t1 t2 t3 t4 A qs rest ∧ ∃ a1 a2 a3 a4 a5, ∀ p ∈ [(Str.ofString "beyond", Value.str (ofL (flatP qs ++ q.b)) a1), (Str.ofString "near", Value.str (ofL (flatP A ++ q.a)) a2), (Str.ofString "rest", Value.str (ofL (flatP A)) a3), (Str.ofString "part", Value.str (ofL q.b) q.tb), (Str.ofString "blanks", Value.str (ofL q.a) q.ta), (Str.ofString "behind", Value.str (ofL (flatP qs)) a4), (Str.ofString "front", Value.str (ofL (flatP (A ++ [q]))) a5), (Str.ofString "mended", Value.ref D2), (Str.ofString "told", Value.ref D1), (Str.ofString "aft", Value.ref y), (Str.ofString "fore", Value.ref x), (Str.ofString "size", Value.int (N : Nat) ts), (Str.ofString "word", Value.str (ofL W) tw), (Str.ofString "codes", Value.ref C)], m' p.1 = some p.2) := by
  intro dp un gd A₀ base h₀ L u s Q R
  have h := law_texts_e.all9 (w, p, loose, mean, mg, mb, P, x, dx, y, dy, n1, n2, t1, t2, t3, t4, A, qs, q, rest, D1, D2, N, ts, W, tw, C, dp, un, gd, A₀, base, h₀, L, u, s, Q, R)
  dsimp only [law_texts_e.Sp9, law_texts_e.St9] at h
  exact h hoff hA hQs l1 l2 l3
end Mine
end
section
open PySem PySem.W PyProof.Rows PySem.Calls PySem.Spec
set_option maxRecDepth 100000
set_option maxHeartbeats 4000000
namespace Mine
section
variable {prog : Program} {w : World} {A : Around} {E : Value → Shared → Prop} {s : Shared} {h₀ : Heap} {env : Env}
/-- the turns over a written list of tuples -/
theorem for_tups {elts : List PySem.Expr} {k : Nat} {pos : Pos} {body : List Stmt} {Q : Flow → Shared → Prop} {l : Addr} {n0 : Nat} {m : Str → Option Value} {news : CbLed} (its : List (Addr × List Value)) (P : Nat → (Str → Option Value) → CbLed → Prop)
    (hh : A.handled = none) (F : Fr h₀ env.locals s.heap m) (N : News h₀ env.locals s.heap news) (hl : (l, listOf (its.map fun t => Value.ref t.1).toArray n0) ∈ news) (ht : ∀ t ∈ its, (t.1, ({ cls := .type "tuple", data := .seq t.2.toArray } : Obj)) ∈ news) (h0 : P 0 m news)
    (turn : ∀ (i : Nat) (t : Addr × List Value) m₁ nx h tk own I T, its[i]? = some t → P i m₁ nx → (∀ p ∈ nx, p.1 ≠ I) → (∀ p ∈ own, p.1 = I ∨ p.1 = l ∨ ∃ t ∈ its, p.1 = t.1) → Fr h₀ env.locals h m₁ → News h₀ env.locals h (own ++ nx) → h.IsTuple T t.2.toArray →
      wpAny (model prog w) A (assign (.Tuple elts k pos) env (.ref T)) (fun _ s₃ => wpAny (model prog w) A (execs body env)
        (LoopStepV h₀ env.locals [I] own (P (i + 1)) { s with heap := h, toks := tk } (fun v s' => Q (.ret v) s') fun s' => Q .next s') E s₃) E { s with heap := h, toks := tk })
    (done : ∀ m₁ nx h tk, P its.length m₁ nx → Fr h₀ env.locals h m₁ → News h₀ env.locals h nx → Q .next { s with heap := h, toks := tk }) :
    wpAny (model prog w) A (pyIter (.ref l)) (fun it s₂ => TurnsAt prog w A h₀ env (.Tuple elts k pos) body Q E it s₂) E s := by
  have hL : s.heap.IsList l (its.map fun t => Value.ref t.1).toArray := PySem.IsL.isList (n := n0) (N _ hl).1
  refine wpAny_pyIter_list hL ?_
  have hllt : l < s.heap.objs.size := Heap.lt_size (N _ hl).1
  have tlt : ∀ t ∈ its, t.1 < s.heap.objs.size := fun t h => Heap.lt_size (N _ (ht t h)).1
  have hsz : (its.map fun t => Value.ref t.1).toArray.size = its.length := by simp
  have at' : ∀ j, j < (its.map fun t => Value.ref t.1).toArray.size → ∃ t, its[j]? = some t ∧ t ∈ its := fun j hj => ⟨its[j]'(hsz ▸ hj), by simp [hsz ▸ hj], List.getElem_mem _⟩
  let Ts : Nat → Addr := fun j => (its[j]?.map (·.1)).getD 0
  let vals : Nat → Array Value := fun j => (its[j]?.map fun t => t.2.toArray).getD #[]
  have hIt : ∀ j, j < (its.map fun t => Value.ref t.1).toArray.size → (its.map fun t => Value.ref t.1).toArray[j]? = some (.ref (Ts j)) := fun j hj => by
    obtain ⟨t, e, _⟩ := at' j hj
    simp [Ts, e]
  have hTlt : ∀ j, j < (its.map fun t => Value.ref t.1).toArray.size → Ts j < s.heap.objs.size := fun j hj => by
    obtain ⟨t, e, hm⟩ := at' j hj
    simp only [Ts, e, Option.map_some, Option.getD_some]; exact tlt t hm
  have W := WalksU.listOfTuples (prog := prog) (w := w) (A := A) hh s.heap.objs.size l (Nat.ne_of_lt hllt) (its.map fun t => Value.ref t.1).toArray Ts vals hIt fun j hj => Nat.ne_of_lt (hTlt j hj)
  have hI0 : h₀.get? s.heap.objs.size = none := by
    cases e : h₀.get? s.heap.objs.size with
    | none => rfl
    | some o => exact absurd (Heap.lt_size (F.keep _ _ e)) (Nat.lt_irrefl _)
  have keep : ∀ b o, s.heap.get? b = some o → (s.heap.push { cls := .type "list_iterator", data := .fields #[.ref l, .int 0 0] }).get? b = some o := fun b o e => Heap.get?_push_of_some _ e
  refine ⟨s.heap.objs.size, _, [s.heap.objs.size], _, _, _, _, m, news, P, rfl, KTurns.ofWalksU W.bound, ?_, ?_, ?_, ⟨⟨_, Heap.get?_push_size _ rfl, rfl, rfl⟩, hL.push _, fun k hk => ?_⟩, F.keeps keep, fun p hp => ⟨keep _ _ (N p hp).1, (N p hp).2⟩, h0, ?_, ?_⟩
  · intro hm
    rcases List.mem_cons.mp hm with e | hm
    · exact Nat.lt_irrefl _ (e ▸ F.ns.lt)
    · rcases List.mem_cons.mp hm with e | hm
      · exact (N _ hl).2.1 e.symm
      · obtain ⟨j, hj, e⟩ := List.mem_map.mp hm
        obtain ⟨t, et, hmt⟩ := at' j (List.mem_range.mp hj)
        simp only [Ts, et, Option.map_some, Option.getD_some] at e
        exact (N _ (ht t hmt)).2.1 e
  · intro b hb
    rw [List.mem_singleton.mp hb]; exact hI0
  · intro p hp hm
    exact Nat.lt_irrefl _ ((List.mem_singleton.mp hm) ▸ Heap.lt_size (N p hp).1)
  · obtain ⟨t, et, hmt⟩ := at' k hk
    simp only [Ts, vals, et, Option.map_some, Option.getD_some]
    exact ⟨_, keep _ _ (N _ (ht t hmt)).1, rfl, _, rfl⟩
  · rintro i v m₁ nx h₁ tk₁ own hi ⟨T, vs, rfl, ⟨hi2, rfl⟩, hT⟩ hJ hoff hsub _ _ _ F₁ N₁
    obtain ⟨t, et, hmt⟩ := at' i hi2
    have e1 : vals i = t.2.toArray := by simp only [vals, et, Option.map_some, Option.getD_some]
    rw [e1] at hT
    refine turn i t m₁ nx h₁ tk₁ own s.heap.objs.size T et hJ (fun p hp e => hoff p hp (List.mem_singleton.mpr e)) (fun p hp => ?_) F₁ N₁ hT
    rcases List.mem_cons.mp (hsub p hp) with e | h
    · exact .inl e
    · rcases List.mem_cons.mp h with e | h
      · exact .inr (.inl e)
      · obtain ⟨j, hj, e⟩ := List.mem_map.mp h
        obtain ⟨t', et', hm'⟩ := at' j (List.mem_range.mp hj)
        simp only [Ts, et', Option.map_some, Option.getD_some] at e
        exact .inr (.inr ⟨t', hm', e.symm⟩)
  · intro h' tk m' nx F' N' hoff hJ
    rw [hsz] at hJ
    exact done m' nx h' tk hJ F' N'
end
theorem rev_ofL (x : List Nat) (u : Tok) : Txt.sliceBy (ofL x) none none (-1, u) = ofL x.reverse := by
  have h := step_rev_list (ofL x) u
  have e : (List.range (ofL x).length).map (fun k => (ofL x).cps.getD ((ofL x).length - 1 - k) 0) = x.reverse := by
    rw [ofL_len]
    apply List.ext_getElem
    · simp
    · intro i h1 h2
      simp at h1 h2
      have hlt : x.length - 1 - i < x.length := by omega
      simp [ofL, List.getElem_reverse, hlt]
  rw [e] at h
  rw [← ofL_cps (Txt.sliceBy (ofL x) none none (-1, u)), h]
end Mine
end
section
open PySem PySem.W PyProof.Rows PySem.Calls PySem.Spec
namespace Mine
namespace law_four_e
def St9 (w : World) (p : Program) (loose : List Str) (mean : ExcName → Option Value) (mg : Str → Option Value) (mb : Str → Option Value) (D1 : Addr) (D2 : Addr) (τ : List (Int × Tok)) (μ : List (List Nat × Tok)) (m1 : Nat) (m2 : Nat) (rest : CbLed) (fr : List Nat) (be : List Nat) (ne : List Nat) (rs : List Nat) (bl : List Nat) (pa : List Nat) (by9 : List Nat) (a1 : Tok) (a2 : Tok) (a3 : Tok) (a4 : Tok) (a5 : Tok) (a6 : Tok) (a7 : Tok) (ts : Tok) (tw : Tok) (n : Nat) (W : List Nat) (C : Addr) (x : Addr) (y : Addr) (dp : Nat) (un : Nat) (gd : Option (List Code)) (A₀ : Around) (base : Heap) (h₀ : Heap) (L : Addr) (u : Str → Option Value) (s : Shared) (Q : Flow → Shared → Prop) (R : Result → Shared → Prop) : Prop :=
  (D1 ≠ D2) → (∀ p ∈ rest, p.1 ≠ D1 ∧ p.1 ≠ D2) → (fr.length ≤ 40) → (be.length ≤ 40) → (ne.length ≤ 40) → (rs.length ≤ 40) → (bl.length ≤ 40) → (pa.length ≤ 40) → (by9.length ≤ 40) → (n ≤ 6) → (τ.length ≤ 20) → (μ.length ≤ 20) → (46 ∉ fr) → (46 ∉ be) → (46 ∉ ne) → (46 ∉ rs) → (46 ∉ by9) → PieGB w p loose mean mg mb 30 ((loopB.drop 6).take 1) (fun _ => True)
      (fun u => ∀ p ∈ [(Str.ofString "beyond", Value.str (ofL by9) a1), (Str.ofString "near", Value.str (ofL ne) a2), (Str.ofString "rest", Value.str (ofL rs) a3), (Str.ofString "part", Value.str (ofL pa) a4), (Str.ofString "blanks", Value.str (ofL bl) a5), (Str.ofString "behind", Value.str (ofL be) a6), (Str.ofString "front", Value.str (ofL fr) a7), (Str.ofString "mended", Value.ref D2), (Str.ofString "told", Value.ref D1), (Str.ofString "size", Value.int (n : Nat) ts), (Str.ofString "aft", Value.ref y), (Str.ofString "fore", Value.ref x), (Str.ofString "word", Value.str (ofL W) tw), (Str.ofString "codes", Value.ref C)], u p.1 = some p.2) ((D1, listOf (ivals τ).toArray m1) :: (D2, listOf (valsL μ).toArray m2) :: rest)
      (fun f m' news' => f = .next ∧ ∃ τ' μ' m1 m2, news' = (D1, listOf (ivals τ').toArray m1) :: (D2, listOf (valsL μ').toArray m2) :: rest ∧ τ'.map (·.1) = τ.map (·.1) ++ ([(fr, [], be), (ne, pa, be), (ne, [], by9), (rs, bl, by9)] : List (List Nat × List Nat × List Nat)).map (fun t => apL t.1 t.2.2 (2 * (n : Int))) ∧
        μ'.map (·.1) = μ.map (·.1) ++ ([(fr, [], be), (ne, pa, be), (ne, [], by9), (rs, bl, by9)] : List (List Nat × List Nat × List Nat)).map (fun t => t.1 ++ t.2.1 ++ t.1.reverse) ∧ ∀ p ∈ [(Str.ofString "beyond", Value.str (ofL by9) a1), (Str.ofString "near", Value.str (ofL ne) a2), (Str.ofString "rest", Value.str (ofL rs) a3), (Str.ofString "part", Value.str (ofL pa) a4), (Str.ofString "blanks", Value.str (ofL bl) a5), (Str.ofString "behind", Value.str (ofL be) a6), (Str.ofString "front", Value.str (ofL fr) a7), (Str.ofString "mended", Value.ref D2), (Str.ofString "told", Value.ref D1), (Str.ofString "size", Value.int (n : Nat) ts), (Str.ofString "aft", Value.ref y), (Str.ofString "fore", Value.ref x), (Str.ofString "word", Value.str (ofL W) tw), (Str.ofString "codes", Value.ref C)], m' p.1 = some p.2) dp un gd A₀ base h₀ L u s Q R
abbrev Vt9 : Type := World × Program × (List Str) × (ExcName → Option Value) × (Str → Option Value) × (Str → Option Value) × Addr × Addr × (List (Int × Tok)) × (List (List Nat × Tok)) × Nat × Nat × CbLed × (List Nat) × (List Nat) × (List Nat) × (List Nat) × (List Nat) × (List Nat) × (List Nat) × Tok × Tok × Tok × Tok × Tok × Tok × Tok × Tok × Tok × Nat × (List Nat) × Addr × Addr × Addr × Nat × Nat × (Option (List Code)) × Around × Heap × Heap × Addr × (Str → Option Value) × Shared × (Flow → Shared → Prop) × (Result → Shared → Prop)
theorem ne9 : Nonempty Vt9 := by
  obtain ⟨w0⟩ := neW
  exact ⟨w0, default, [], (fun _ => none), (fun _ => none), (fun _ => none), 0, 0, [], [], 0, 0, [], [], [], [], [], [], [], [], 0, 0, 0, 0, 0, 0, 0, 0, 0, 0, [], 0, 0, 0, 0, 0, none, callerA, {}, {}, 0, (fun _ => none), {}, (fun _ _ => True), (fun _ _ => True)⟩
def Sp9 (t : Vt9) : Prop := St9 (t.1) (t.2.1) (t.2.2.1) (t.2.2.2.1) (t.2.2.2.2.1) (t.2.2.2.2.2.1) (t.2.2.2.2.2.2.1) (t.2.2.2.2.2.2.2.1) (t.2.2.2.2.2.2.2.2.1) (t.2.2.2.2.2.2.2.2.2.1) (t.2.2.2.2.2.2.2.2.2.2.1) (t.2.2.2.2.2.2.2.2.2.2.2.1) (t.2.2.2.2.2.2.2.2.2.2.2.2.1) (t.2.2.2.2.2.2.2.2.2.2.2.2.2.1) (t.2.2.2.2.2.2.2.2.2.2.2.2.2.2.1) (t.2.2.2.2.2.2.2.2.2.2.2.2.2.2.2.1) (t.2.2.2.2.2.2.2.2.2.2.2.2.2.2.2.2.1) (t.2.2.2.2.2.2.2.2.2.2.2.2.2.2.2.2.2.1) (t.2.2.2.2.2.2.2.2.2.2.2.2.2.2.2.2.2.2.1) (t.2.2.2.2.2.2.2.2.2.2.2.2.2.2.2.2.2.2.2.1) (t.2.2.2.2.2.2.2.2.2.2.2.2.2.2.2.2.2.2.2.2.1) (t.2.2.2.2.2.2.2.2.2.2.2.2.2.2.2.2.2.2.2.2.2.1) (t.2.2.2.2.2.2.2.2.2.2.2.2.2.2.2.2.2.2.2.2.2.2.1) (t.2.2.2.2.2.2.2.2.2.2.2.2.2.2.2.2.2.2.2.2.2.2.2.1) (t.2.2.2.2.2.2.2.2.2.2.2.2.2.2.2.2.2.2.2.2.2.2.2.2.1) (t.2.2.2.2.2.2.2.2.2.2.2.2.2.2.2.2.2.2.2.2.2.2.2.2.2.1) (t.2.2.2.2.2.2.2.2.2.2.2.2.2.2.2.2.2.2.2.2.2.2.2.2.2.2.1) (t.2.2.2.2.2.2.2.2.2.2.2.2.2.2.2.2.2.2.2.2.2.2.2.2.2.2.2.1) (t.2.2.2.2.2.2.2.2.2.2.2.2.2.2.2.2.2.2.2.2.2.2.2.2.2.2.2.2.1) (t.2.2.2.2.2.2.2.2.2.2.2.2.2.2.2.2.2.2.2.2.2.2.2.2.2.2.2.2.2.1) (t.2.2.2.2.2.2.2.2.2.2.2.2.2.2.2.2.2.2.2.2.2.2.2.2.2.2.2.2.2.2.1) (t.2.2.2.2.2.2.2.2.2.2.2.2.2.2.2.2.2.2.2.2.2.2.2.2.2.2.2.2.2.2.2.1) (t.2.2.2.2.2.2.2.2.2.2.2.2.2.2.2.2.2.2.2.2.2.2.2.2.2.2.2.2.2.2.2.2.1) (t.2.2.2.2.2.2.2.2.2.2.2.2.2.2.2.2.2.2.2.2.2.2.2.2.2.2.2.2.2.2.2.2.2.1) (t.2.2.2.2.2.2.2.2.2.2.2.2.2.2.2.2.2.2.2.2.2.2.2.2.2.2.2.2.2.2.2.2.2.2.1) (t.2.2.2.2.2.2.2.2.2.2.2.2.2.2.2.2.2.2.2.2.2.2.2.2.2.2.2.2.2.2.2.2.2.2.2.1) (t.2.2.2.2.2.2.2.2.2.2.2.2.2.2.2.2.2.2.2.2.2.2.2.2.2.2.2.2.2.2.2.2.2.2.2.2.1) (t.2.2.2.2.2.2.2.2.2.2.2.2.2.2.2.2.2.2.2.2.2.2.2.2.2.2.2.2.2.2.2.2.2.2.2.2.2.1) (t.2.2.2.2.2.2.2.2.2.2.2.2.2.2.2.2.2.2.2.2.2.2.2.2.2.2.2.2.2.2.2.2.2.2.2.2.2.2.1) (t.2.2.2.2.2.2.2.2.2.2.2.2.2.2.2.2.2.2.2.2.2.2.2.2.2.2.2.2.2.2.2.2.2.2.2.2.2.2.2.1) (t.2.2.2.2.2.2.2.2.2.2.2.2.2.2.2.2.2.2.2.2.2.2.2.2.2.2.2.2.2.2.2.2.2.2.2.2.2.2.2.2.1) (t.2.2.2.2.2.2.2.2.2.2.2.2.2.2.2.2.2.2.2.2.2.2.2.2.2.2.2.2.2.2.2.2.2.2.2.2.2.2.2.2.2.1) (t.2.2.2.2.2.2.2.2.2.2.2.2.2.2.2.2.2.2.2.2.2.2.2.2.2.2.2.2.2.2.2.2.2.2.2.2.2.2.2.2.2.2.1) (t.2.2.2.2.2.2.2.2.2.2.2.2.2.2.2.2.2.2.2.2.2.2.2.2.2.2.2.2.2.2.2.2.2.2.2.2.2.2.2.2.2.2.2.1) (t.2.2.2.2.2.2.2.2.2.2.2.2.2.2.2.2.2.2.2.2.2.2.2.2.2.2.2.2.2.2.2.2.2.2.2.2.2.2.2.2.2.2.2.2)
noncomputable def c9 : Vt9 := @Classical.epsilon Vt9 ne9 fun t => ¬ Sp9 t
@[irreducible] noncomputable def w : World := c9.1
@[irreducible] noncomputable def p : Program := c9.2.1
@[irreducible] noncomputable def loose : List Str := c9.2.2.1
@[irreducible] noncomputable def mean : ExcName → Option Value := c9.2.2.2.1
@[irreducible] noncomputable def mg : Str → Option Value := c9.2.2.2.2.1
@[irreducible] noncomputable def mb : Str → Option Value := c9.2.2.2.2.2.1
@[irreducible] noncomputable def D1 : Addr := c9.2.2.2.2.2.2.1
@[irreducible] noncomputable def D2 : Addr := c9.2.2.2.2.2.2.2.1
@[irreducible] noncomputable def τ : List (Int × Tok) := c9.2.2.2.2.2.2.2.2.1
@[irreducible] noncomputable def μ : List (List Nat × Tok) := c9.2.2.2.2.2.2.2.2.2.1
@[irreducible] noncomputable def m1 : Nat := c9.2.2.2.2.2.2.2.2.2.2.1
@[irreducible] noncomputable def m2 : Nat := c9.2.2.2.2.2.2.2.2.2.2.2.1
@[irreducible] noncomputable def rest : CbLed := c9.2.2.2.2.2.2.2.2.2.2.2.2.1
@[irreducible] noncomputable def fr : List Nat := c9.2.2.2.2.2.2.2.2.2.2.2.2.2.1
@[irreducible] noncomputable def be : List Nat := c9.2.2.2.2.2.2.2.2.2.2.2.2.2.2.1
@[irreducible] noncomputable def ne : List Nat := c9.2.2.2.2.2.2.2.2.2.2.2.2.2.2.2.1
@[irreducible] noncomputable def rs : List Nat := c9.2.2.2.2.2.2.2.2.2.2.2.2.2.2.2.2.1
@[irreducible] noncomputable def bl : List Nat := c9.2.2.2.2.2.2.2.2.2.2.2.2.2.2.2.2.2.1
@[irreducible] noncomputable def pa : List Nat := c9.2.2.2.2.2.2.2.2.2.2.2.2.2.2.2.2.2.2.1
@[irreducible] noncomputable def by9 : List Nat := c9.2.2.2.2.2.2.2.2.2.2.2.2.2.2.2.2.2.2.2.1
@[irreducible] noncomputable def a1 : Tok := c9.2.2.2.2.2.2.2.2.2.2.2.2.2.2.2.2.2.2.2.2.1
@[irreducible] noncomputable def a2 : Tok := c9.2.2.2.2.2.2.2.2.2.2.2.2.2.2.2.2.2.2.2.2.2.1
@[irreducible] noncomputable def a3 : Tok := c9.2.2.2.2.2.2.2.2.2.2.2.2.2.2.2.2.2.2.2.2.2.2.1
@[irreducible] noncomputable def a4 : Tok := c9.2.2.2.2.2.2.2.2.2.2.2.2.2.2.2.2.2.2.2.2.2.2.2.1
@[irreducible] noncomputable def a5 : Tok := c9.2.2.2.2.2.2.2.2.2.2.2.2.2.2.2.2.2.2.2.2.2.2.2.2.1
@[irreducible] noncomputable def a6 : Tok := c9.2.2.2.2.2.2.2.2.2.2.2.2.2.2.2.2.2.2.2.2.2.2.2.2.2.1
@[irreducible] noncomputable def a7 : Tok := c9.2.2.2.2.2.2.2.2.2.2.2.2.2.2.2.2.2.2.2.2.2.2.2.2.2.2.1
@[irreducible] noncomputable def ts : Tok := c9.2.2.2.2.2.2.2.2.2.2.2.2.2.2.2.2.2.2.2.2.2.2.2.2.2.2.2.1
@[irreducible] noncomputable def tw : Tok := c9.2.2.2.2.2.2.2.2.2.2.2.2.2.2.2.2.2.2.2.2.2.2.2.2.2.2.2.2.1
@[irreducible] noncomputable def n : Nat := c9.2.2.2.2.2.2.2.2.2.2.2.2.2.2.2.2.2.2.2.2.2.2.2.2.2.2.2.2.2.1
@[irreducible] noncomputable def W : List Nat := c9.2.2.2.2.2.2.2.2.2.2.2.2.2.2.2.2.2.2.2.2.2.2.2.2.2.2.2.2.2.2.1
@[irreducible] noncomputable def C : Addr := c9.2.2.2.2.2.2.2.2.2.2.2.2.2.2.2.2.2.2.2.2.2.2.2.2.2.2.2.2.2.2.2.1
@[irreducible] noncomputable def x : Addr := c9.2.2.2.2.2.2.2.2.2.2.2.2.2.2.2.2.2.2.2.2.2.2.2.2.2.2.2.2.2.2.2.2.1
@[irreducible] noncomputable def y : Addr := c9.2.2.2.2.2.2.2.2.2.2.2.2.2.2.2.2.2.2.2.2.2.2.2.2.2.2.2.2.2.2.2.2.2.1
@[irreducible] noncomputable def dp : Nat := c9.2.2.2.2.2.2.2.2.2.2.2.2.2.2.2.2.2.2.2.2.2.2.2.2.2.2.2.2.2.2.2.2.2.2.1
@[irreducible] noncomputable def un : Nat := c9.2.2.2.2.2.2.2.2.2.2.2.2.2.2.2.2.2.2.2.2.2.2.2.2.2.2.2.2.2.2.2.2.2.2.2.1
@[irreducible] noncomputable def gd : Option (List Code) := c9.2.2.2.2.2.2.2.2.2.2.2.2.2.2.2.2.2.2.2.2.2.2.2.2.2.2.2.2.2.2.2.2.2.2.2.2.1
@[irreducible] noncomputable def A₀ : Around := c9.2.2.2.2.2.2.2.2.2.2.2.2.2.2.2.2.2.2.2.2.2.2.2.2.2.2.2.2.2.2.2.2.2.2.2.2.2.1
@[irreducible] noncomputable def base : Heap := c9.2.2.2.2.2.2.2.2.2.2.2.2.2.2.2.2.2.2.2.2.2.2.2.2.2.2.2.2.2.2.2.2.2.2.2.2.2.2.1
@[irreducible] noncomputable def h₀ : Heap := c9.2.2.2.2.2.2.2.2.2.2.2.2.2.2.2.2.2.2.2.2.2.2.2.2.2.2.2.2.2.2.2.2.2.2.2.2.2.2.2.1
@[irreducible] noncomputable def L : Addr := c9.2.2.2.2.2.2.2.2.2.2.2.2.2.2.2.2.2.2.2.2.2.2.2.2.2.2.2.2.2.2.2.2.2.2.2.2.2.2.2.2.1
@[irreducible] noncomputable def u : Str → Option Value := c9.2.2.2.2.2.2.2.2.2.2.2.2.2.2.2.2.2.2.2.2.2.2.2.2.2.2.2.2.2.2.2.2.2.2.2.2.2.2.2.2.2.1
@[irreducible] noncomputable def s : Shared := c9.2.2.2.2.2.2.2.2.2.2.2.2.2.2.2.2.2.2.2.2.2.2.2.2.2.2.2.2.2.2.2.2.2.2.2.2.2.2.2.2.2.2.1
@[irreducible] noncomputable def Q : Flow → Shared → Prop := c9.2.2.2.2.2.2.2.2.2.2.2.2.2.2.2.2.2.2.2.2.2.2.2.2.2.2.2.2.2.2.2.2.2.2.2.2.2.2.2.2.2.2.2.1
@[irreducible] noncomputable def R : Result → Shared → Prop := c9.2.2.2.2.2.2.2.2.2.2.2.2.2.2.2.2.2.2.2.2.2.2.2.2.2.2.2.2.2.2.2.2.2.2.2.2.2.2.2.2.2.2.2.2
set_option maxRecDepth 100000 in
set_option maxHeartbeats 8000000 in
theorem core9 : St9 w p loose mean mg mb D1 D2 τ μ m1 m2 rest fr be ne rs bl pa by9 a1 a2 a3 a4 a5 a6 a7 ts tw n W C x y dp un gd A₀ base h₀ L u s Q R := by
  unfold St9 PieGB P0
  k_fill
  intro hD hoff l1 l2 l3 l4 l5 l6 l7 hn cτ cμ k1 k2 k3 k4 k7 B F hm hb X N0 T hG hdp hun hQ
  have F1 := fr_norm _ F hm
  clear F hm
  show wpAny (model Challenge.rw_sn0024_01.row.prog w) _ (execs [_] _) _ _ _
  repeat' (first | (k_unfold; (try dsimp only)) | ((fail_if_success (with_reducible show wpAny _ _ (exec (Stmt.While _ _ _ _) _) _ _ _)); (fail_if_success (with_reducible show wpAny _ _ (exec (Stmt.For _ _ _ _ _) _) _ _ _)); (fail_if_success (with_reducible show wpAny _ _ (pyIter _) _ _ _)); (fail_if_success (with_reducible show wpAny _ _ (getMethod (Value.ref _) _ _) _ _ _)); (fail_if_success (with_reducible show wpAny _ _ (call (Value.ref _) _) _ _ _)); (fail_if_success (with_reducible show wpAny _ _ (call (Value.builtin "list.append") _) _ _ _)); first | walk1 | (dsimp only; walk1)) | (leave1; (try dsimp only)))
  walk1
  repeat' (first | (k_unfold; (try dsimp only)) | ((fail_if_success (with_reducible show wpAny _ _ (exec (Stmt.While _ _ _ _) _) _ _ _)); (fail_if_success (with_reducible show wpAny _ _ (exec (Stmt.For _ _ _ _ _) _) _ _ _)); (fail_if_success (with_reducible show wpAny _ _ (pyIter _) _ _ _)); (fail_if_success (with_reducible show wpAny _ _ (getMethod (Value.ref _) _ _) _ _ _)); (fail_if_success (with_reducible show wpAny _ _ (call (Value.ref _) _) _ _ _)); (fail_if_success (with_reducible show wpAny _ _ (call (Value.builtin "list.append") _) _ _ _)); first | walk1 | (dsimp only; walk1)) | (leave1; (try dsimp only)))
  rename Fr _ _ _ _ => F2
  rename News _ _ _ _ => N2
  generalize htr : ([(fr, [], be), (ne, pa, be), (ne, [], by9), (rs, bl, by9)] : List (List Nat × List Nat × List Nat)) = tr at hQ
  have N3 := kst_newsOf (l' := (D1, listOf (ivals τ).toArray m1) :: (D2, listOf (valsL μ).toArray m2) :: (_ :: _ :: _ :: _ :: _ :: rest)) N2 (List.forall_mem_cons.mpr ⟨.tail _ (.tail _ (.tail _ (.tail _ (.tail _ (.head _))))), List.forall_mem_cons.mpr ⟨.tail _ (.tail _ (.tail _ (.tail _ (.tail _ (.tail _ (.head _)))))), List.forall_mem_cons.mpr ⟨.head _, List.forall_mem_cons.mpr ⟨.tail _ (.head _), List.forall_mem_cons.mpr ⟨.tail _ (.tail _ (.head _)), List.forall_mem_cons.mpr ⟨.tail _ (.tail _ (.tail _ (.head _))), List.forall_mem_cons.mpr ⟨.tail _ (.tail _ (.tail _ (.tail _ (.head _)))), fun p hp => .tail _ (.tail _ (.tail _ (.tail _ (.tail _ (.tail _ (.tail _ (hp)))))))⟩⟩⟩⟩⟩⟩⟩)
  clear N2
  rename _ < _ ∧ _ < _ ∧ _ < _ ∧ _ < _ ∧ _ < _ ∧ _ < _ ∧ AllLt _ _ => q5
  rename _ < _ ∧ _ < _ ∧ _ < _ ∧ _ < _ ∧ _ < _ ∧ AllLt _ _ => q4
  rename _ < _ ∧ _ < _ ∧ _ < _ ∧ _ < _ ∧ AllLt _ _ => q3
  rename _ < _ ∧ _ < _ ∧ _ < _ ∧ AllLt _ _ => q2
  rename _ < _ ∧ _ < _ ∧ AllLt _ _ => q1
  obtain ⟨rest2, hr2, N4⟩ : ∃ rest2, rest2 = _ ∧ News h₀ L _ ((D1, listOf (ivals τ).toArray m1) :: (D2, listOf (valsL μ).toArray m2) :: rest2) := ⟨_, rfl, N3⟩
  have hoff3 : ∀ p ∈ rest2, p.1 ≠ D1 ∧ p.1 ≠ D2 := by
    intro p hp
    rw [hr2] at hp
    simp only [List.mem_cons] at hp
    rcases hp with rfl | rfl | rfl | rfl | rfl | hp
    · exact ⟨Nat.ne_of_gt q5.2.2.2.2.1, Nat.ne_of_gt q5.2.2.2.2.2.1⟩
    · exact ⟨Nat.ne_of_gt q4.2.2.2.1, Nat.ne_of_gt q4.2.2.2.2.1⟩
    · exact ⟨Nat.ne_of_gt q3.2.2.1, Nat.ne_of_gt q3.2.2.2.1⟩
    · exact ⟨Nat.ne_of_gt q2.2.1, Nat.ne_of_gt q2.2.2.1⟩
    · exact ⟨Nat.ne_of_gt q1.1, Nat.ne_of_gt q1.2.1⟩
    · exact hoff p hp
  clear N3
  clear q1 q2 q3 q4 q5
  refine for_tups (n0 := 0) [(_, [Value.str (ofL fr) a7, Value.str (ofL []) s.toks, Value.str (ofL be) a6]), (_, [Value.str (ofL ne) a2, Value.str (ofL pa) a4, Value.str (ofL be) a6]), (_, [Value.str (ofL ne) a2, Value.str (ofL []) (s.toks + 1), Value.str (ofL by9) a1]), (_, [Value.str (ofL rs) a3, Value.str (ofL bl) a5, Value.str (ofL by9) a1])]
    (fun i m nx => ∃ τ' μ' m1 m2, nx = (D1, listOf (ivals τ').toArray m1) :: (D2, listOf (valsL μ').toArray m2) :: rest2 ∧ τ'.map (·.1) = τ.map (·.1) ++ (tr.take i).map (fun t => apL t.1 t.2.2 (2 * (n : Int))) ∧ μ'.map (·.1) = μ.map (·.1) ++ (tr.take i).map (fun t => t.1 ++ t.2.1 ++ t.1.reverse) ∧ ∀ p ∈ [(Str.ofString "beyond", Value.str (ofL by9) a1), (Str.ofString "near", Value.str (ofL ne) a2), (Str.ofString "rest", Value.str (ofL rs) a3), (Str.ofString "part", Value.str (ofL pa) a4), (Str.ofString "blanks", Value.str (ofL bl) a5), (Str.ofString "behind", Value.str (ofL be) a6), (Str.ofString "front", Value.str (ofL fr) a7), (Str.ofString "mended", Value.ref D2), (Str.ofString "told", Value.ref D1), (Str.ofString "size", Value.int (n : Nat) ts), (Str.ofString "aft", Value.ref y), (Str.ofString "fore", Value.ref x), (Str.ofString "word", Value.str (ofL W) tw), (Str.ofString "codes", Value.ref C)], m p.1 = some p.2)
    (by rfl) F2 N4 (by rw [hr2]; exact .tail _ (.tail _ (.head _))) ?ht ⟨τ, μ, m1, m2, rfl, by simp, by simp, by walk_at "K"⟩ ?turn ?done
  case ht =>
    intro t ht
    rw [hr2]
    simp only [List.mem_cons, List.not_mem_nil, or_false] at ht
    rcases ht with rfl | rfl | rfl | rfl
    · exact .tail _ (.tail _ (.tail _ (.tail _ (.tail _ (.tail _ (.head _))))))
    · exact .tail _ (.tail _ (.tail _ (.tail _ (.tail _ (.head _)))))
    · exact .tail _ (.tail _ (.tail _ (.tail _ (.head _))))
    · exact .tail _ (.tail _ (.tail _ (.head _)))
  case turn =>
    rintro i t m₁ nx h tk own I T9 hit ⟨τ', μ', m1, m2, rfl, et, em, hm⟩ hoffI hown F5 N5 hT
    obtain ⟨ea, eb, ec, ta, tb, tc, hlen, hno, htri, ht2⟩ : ∃ ea eb ec ta tb tc, (List.length ea ≤ 40 ∧ List.length eb ≤ 40 ∧ List.length ec ≤ 40) ∧ (46 ∉ ea ∧ 46 ∉ ec) ∧ tr.take (i + 1) = tr.take i ++ [(ea, eb, ec)] ∧ t.2 = [Value.str (ofL ea) ta, Value.str (ofL eb) tb, Value.str (ofL ec) tc] := by
      subst htr
      rcases i with _ | _ | _ | _ | i
      · exact ⟨_, _, _, _, _, _, ⟨l1, by decide, l2⟩, ⟨k1, k2⟩, rfl, by rw [← Option.some.inj hit]⟩
      · exact ⟨_, _, _, _, _, _, ⟨l3, l6, l2⟩, ⟨k3, k2⟩, rfl, by rw [← Option.some.inj hit]⟩
      · exact ⟨_, _, _, _, _, _, ⟨l3, by decide, l7⟩, ⟨k3, k7⟩, rfl, by rw [← Option.some.inj hit]⟩
      · exact ⟨_, _, _, _, _, _, ⟨l4, l5, l7⟩, ⟨k4, k7⟩, rfl, by rw [← Option.some.inj hit]⟩
      · cases hit
    rw [ht2] at hT
    have ho1 : ∀ p ∈ own, p.1 ≠ D1 ∧ p.1 ≠ D2 := by
      have z := hoff3
      rw [hr2] at z
      intro p hp
      rcases hown p hp with e | e | ⟨t, ht, e⟩
      · rw [e]; exact ⟨Ne.symm (hoffI (D1, listOf (ivals τ').toArray m1) (.head _)), Ne.symm (hoffI (D2, listOf (valsL μ').toArray m2) (.tail _ (.head _)))⟩
      · rw [e]; exact z _ (.head _)
      · simp only [List.mem_cons, List.not_mem_nil, or_false] at ht
        rcases ht with rfl | rfl | rfl | rfl
        · rw [e]; exact z _ (.tail _ (.tail _ (.tail _ (.tail _ (.head _)))))
        · rw [e]; exact z _ (.tail _ (.tail _ (.tail _ (.head _))))
        · rw [e]; exact z _ (.tail _ (.tail _ (.head _)))
        · rw [e]; exact z _ (.tail _ (.head _))
    have trl : tr.length = 4 := by rw [← htr]; rfl
    have cl1 : τ'.length ≤ 24 := by have := congrArg List.length et; simp at this; omega
    have cl2 : μ'.length ≤ 24 := by have := congrArg List.length em; simp at this; omega
    clear F2 N4 hit ht2 hr2 hown
    have F6 := fr_norm [(Str.ofString "beyond", Value.str (ofL by9) a1), (Str.ofString "near", Value.str (ofL ne) a2), (Str.ofString "rest", Value.str (ofL rs) a3), (Str.ofString "part", Value.str (ofL pa) a4), (Str.ofString "blanks", Value.str (ofL bl) a5), (Str.ofString "behind", Value.str (ofL be) a6), (Str.ofString "front", Value.str (ofL fr) a7), (Str.ofString "mended", Value.ref D2), (Str.ofString "told", Value.ref D1), (Str.ofString "size", Value.int (n : Nat) ts), (Str.ofString "aft", Value.ref y), (Str.ofString "fore", Value.ref x), (Str.ofString "word", Value.str (ofL W) tw), (Str.ofString "codes", Value.ref C)] F5 hm
    clear F5
    refine wpAny_assign_Tuple (by rfl) hT rfl rfl fun h6 hx6 => ?_
    have k6 : ∀ b o, h.get? b = some o → h6.get? b = some o := fun b o e => hx6 b o (Nat.ne_of_lt (Heap.lt_size e)) e
    have F7 := F6.keeps k6
    have N7 : News h₀ L h6 _ := fun p hp => ⟨k6 _ _ (N5 p hp).1, (N5 p hp).2⟩
    clear F6 N5 hT hx6 k6
    show wpAny _ _ (do holding [_, _] (assign (.Name (Str.ofString "left") _) _ _); holding [_] (assign (.Name (Str.ofString "hand") _) _ _); holding [] (assign (.Name (Str.ofString "right") _) _ _); pure ()) _ _ _
    refine wpAny_bind (wpAny_holding (wpAny_assign_Name ?_))
    repeat' (first | (k_unfold; (try dsimp only)) | ((fail_if_success (with_reducible show wpAny _ _ (exec (Stmt.While _ _ _ _) _) _ _ _)); (fail_if_success (with_reducible show wpAny _ _ (exec (Stmt.For _ _ _ _ _) _) _ _ _)); (fail_if_success (with_reducible show wpAny _ _ (pyIter _) _ _ _)); first | walk1 | (dsimp only; walk1)) | (leave1; (try dsimp only)))
    refine wpAny_bind (wpAny_holding (wpAny_assign_Name ?_))
    repeat' (first | (k_unfold; (try dsimp only)) | ((fail_if_success (with_reducible show wpAny _ _ (exec (Stmt.While _ _ _ _) _) _ _ _)); (fail_if_success (with_reducible show wpAny _ _ (exec (Stmt.For _ _ _ _ _) _) _ _ _)); (fail_if_success (with_reducible show wpAny _ _ (pyIter _) _ _ _)); first | walk1 | (dsimp only; walk1)) | (leave1; (try dsimp only)))
    refine wpAny_bind (wpAny_holding (wpAny_assign_Name ?_))
    repeat' (first | (k_unfold; (try dsimp only)) | ((fail_if_success (with_reducible show wpAny _ _ (exec (Stmt.While _ _ _ _) _) _ _ _)); (fail_if_success (with_reducible show wpAny _ _ (exec (Stmt.For _ _ _ _ _) _) _ _ _)); (fail_if_success (with_reducible show wpAny _ _ (pyIter _) _ _ _)); first | walk1 | (dsimp only; walk1)) | (leave1; (try dsimp only)))
    refine wpAny_pure ?_
    have e1 : Str.length (ofL ea) ≤ 40 := by rw [ofL_len]; exact hlen.1
    have e2 : Str.length (ofL eb) ≤ 40 := by rw [ofL_len]; exact hlen.2.1
    have e3 : Str.length (ofL ec) ≤ 40 := by rw [ofL_len]; exact hlen.2.2
    rename News _ _ _ _ => N7
    have N8 : News h₀ L _ ((D1, listOf (ivals τ').toArray m1) :: (D2, listOf (valsL μ').toArray m2) :: (own ++ rest2)) := kst_newsOf N7 (by
      intro p hp
      simp only [List.mem_cons, List.mem_append] at hp ⊢
      rcases hp with h | h | h | h
      · exact .inr (.inl h)
      · exact .inr (.inr (.inl h))
      · exact .inl h
      · exact .inr (.inr (.inr h)))
    have hofft : ∀ p ∈ own ++ rest2, p.1 ≠ D1 ∧ p.1 ≠ D2 := by
      intro p hp
      rcases List.mem_append.mp hp with hp | hp
      · exact ho1 p hp
      · exact hoff3 p hp
    repeat' (first | (k_unfold; (try dsimp only)) | ((fail_if_success (with_reducible show wpAny _ _ (exec (Stmt.While _ _ _ _) _) _ _ _)); (fail_if_success (with_reducible show wpAny _ _ (exec (Stmt.For _ _ _ _ _) _) _ _ _)); (fail_if_success (with_reducible show wpAny _ _ (pyIter _) _ _ _)); (fail_if_success (with_reducible show wpAny _ _ (getMethod (Value.ref _) _ _) _ _ _)); (fail_if_success (with_reducible show wpAny _ _ (call (Value.ref _) _) _ _ _)); (fail_if_success (with_reducible show wpAny _ _ (call (Value.builtin "list.append") _) _ _ _)); first | walk1 | (dsimp only; walk1)) | (leave1; (try dsimp only)))
    rename News _ _ _ _ => N9
    dsimp only
    refine listMethod_K N9 (.head _) F.slot_list_append F.type_list_append ?_
    repeat' (first | (k_unfold; (try dsimp only)) | ((fail_if_success (with_reducible show wpAny _ _ (exec (Stmt.While _ _ _ _) _) _ _ _)); (fail_if_success (with_reducible show wpAny _ _ (exec (Stmt.For _ _ _ _ _) _) _ _ _)); (fail_if_success (with_reducible show wpAny _ _ (pyIter _) _ _ _)); (fail_if_success (with_reducible show wpAny _ _ (getMethod (Value.ref _) _ _) _ _ _)); (fail_if_success (with_reducible show wpAny _ _ (call (Value.ref _) _) _ _ _)); (fail_if_success (with_reducible show wpAny _ _ (call (Value.builtin "list.append") _) _ _ _)); first | walk1 | (dsimp only; walk1)) | (leave1; (try dsimp only)))
    rename Fr _ _ _ _ => F8
    rename News _ _ _ _ => N9
    refine apart_ct w p loose mean mg mb _ ea ec _ _ (2 * (n : Int)) _ hlen.1 hlen.2.2 (by omega) (by omega) hno.1 hno.2 dp un gd _ _ _ _ _ _ _ _ _ _ _ _ _ _ B F8 X N9 T rfl (by omega) (by omega) ?_
    intro tA hA tkA FA NA
    clear F8 N9
    repeat' (first | (k_unfold; (try dsimp only)) | ((fail_if_success (with_reducible show wpAny _ _ (exec (Stmt.While _ _ _ _) _) _ _ _)); (fail_if_success (with_reducible show wpAny _ _ (exec (Stmt.For _ _ _ _ _) _) _ _ _)); (fail_if_success (with_reducible show wpAny _ _ (pyIter _) _ _ _)); (fail_if_success (with_reducible show wpAny _ _ (getMethod (Value.ref _) _ _) _ _ _)); (fail_if_success (with_reducible show wpAny _ _ (call (Value.ref _) _) _ _ _)); (fail_if_success (with_reducible show wpAny _ _ (call (Value.builtin "list.append") _) _ _ _)); first | walk1 | (dsimp only; walk1)) | (leave1; (try dsimp only)))
    refine append_head FA NA ?_ ?_ (by rw [List.size_toArray, List.length_map, sizeLine_eq]; omega)
    · intro p hp
      rcases List.mem_cons.mp hp with rfl | hp
      · exact Ne.symm hD
      · exact (hofft p hp).1
    intro h8 FB NB
    clear FA NA
    have eB : (ivals τ').toArray.push (Value.int (apL ea ec (2 * (n : Int))) tA) = (ivals (τ' ++ [(apL ea ec (2 * (n : Int)), tA)])).toArray := by simp [ivals]
    rw [eB] at NB
    dsimp only
    repeat' (first | (k_unfold; (try dsimp only)) | ((fail_if_success (with_reducible show wpAny _ _ (exec (Stmt.While _ _ _ _) _) _ _ _)); (fail_if_success (with_reducible show wpAny _ _ (exec (Stmt.For _ _ _ _ _) _) _ _ _)); (fail_if_success (with_reducible show wpAny _ _ (pyIter _) _ _ _)); (fail_if_success (with_reducible show wpAny _ _ (getMethod (Value.ref _) _ _) _ _ _)); (fail_if_success (with_reducible show wpAny _ _ (call (Value.ref _) _) _ _ _)); (fail_if_success (with_reducible show wpAny _ _ (call (Value.builtin "list.append") _) _ _ _)); first | walk1 | (dsimp only; walk1)) | (leave1; (try dsimp only)))
    rename News _ _ _ _ => N9
    dsimp only
    refine listMethod_K N9 (.tail _ (.head _)) F.slot_list_append F.type_list_append ?_
    repeat' (first | (k_unfold; (try dsimp only)) | ((fail_if_success (with_reducible show wpAny _ _ (exec (Stmt.While _ _ _ _) _) _ _ _)); (fail_if_success (with_reducible show wpAny _ _ (exec (Stmt.For _ _ _ _ _) _) _ _ _)); (fail_if_success (with_reducible show wpAny _ _ (pyIter _) _ _ _)); (fail_if_success (with_reducible show wpAny _ _ (getMethod (Value.ref _) _ _) _ _ _)); (fail_if_success (with_reducible show wpAny _ _ (call (Value.ref _) _) _ _ _)); (fail_if_success (with_reducible show wpAny _ _ (call (Value.builtin "list.append") _) _ _ _)); first | walk1 | (dsimp only; walk1)) | (leave1; (try dsimp only)))
    rw [rev_ofL, ofL_app]
    refine add_str (fun t9 k9 => ?_) (by rw [ofL_len, ofL_len, sizeLine_eq]; simp; omega)
    rw [ofL_app]
    dsimp only
    repeat' (first | (k_unfold; (try dsimp only)) | ((fail_if_success (with_reducible show wpAny _ _ (exec (Stmt.While _ _ _ _) _) _ _ _)); (fail_if_success (with_reducible show wpAny _ _ (exec (Stmt.For _ _ _ _ _) _) _ _ _)); (fail_if_success (with_reducible show wpAny _ _ (pyIter _) _ _ _)); (fail_if_success (with_reducible show wpAny _ _ (getMethod (Value.ref _) _ _) _ _ _)); (fail_if_success (with_reducible show wpAny _ _ (call (Value.ref _) _) _ _ _)); (fail_if_success (with_reducible show wpAny _ _ (call (Value.builtin "list.append") _) _ _ _)); first | walk1 | (dsimp only; walk1)) | (leave1; (try dsimp only)))
    rename Fr _ _ _ _ => FC
    rename News _ _ _ _ => NC
    have hD9 : ∀ p ∈ (D1, listOf (ivals (τ' ++ [(apL ea ec (2 * (n : Int)), tA)])).toArray (m1 + 1)) :: (own ++ rest2), p.1 ≠ D2 := by
      intro p hp
      rcases List.mem_cons.mp hp with rfl | hp
      · exact hD
      · exact (hofft p hp).2
    have ND : News h₀ L _ ((D2, listOf (valsL μ').toArray m2) :: (D1, listOf (ivals (τ' ++ [(apL ea ec (2 * (n : Int)), tA)])).toArray (m1 + 1)) :: (own ++ rest2)) := kst_newsOf NC (by
      intro p hp
      simp only [List.mem_cons] at hp ⊢
      rcases hp with h | h | h
      · exact .inr (.inl h)
      · exact .inl h
      · exact .inr (.inr h))
    refine append_head FC ND hD9 ?_ (by rw [List.size_toArray]; unfold valsL; rw [List.length_map, sizeLine_eq]; omega)
    intro h9 FE NE
    clear FC NC ND
    have eC : (valsL μ').toArray.push (Value.str (ofL (ea ++ eb ++ ea.reverse)) t9) = (valsL (μ' ++ [(ea ++ eb ++ ea.reverse, t9)])).toArray := by simp [valsL]
    rw [eC] at NE
    dsimp only
    repeat' (first | (k_unfold; (try dsimp only)) | ((fail_if_success (with_reducible show wpAny _ _ (exec (Stmt.While _ _ _ _) _) _ _ _)); (fail_if_success (with_reducible show wpAny _ _ (exec (Stmt.For _ _ _ _ _) _) _ _ _)); (fail_if_success (with_reducible show wpAny _ _ (pyIter _) _ _ _)); (fail_if_success (with_reducible show wpAny _ _ (getMethod (Value.ref _) _ _) _ _ _)); (fail_if_success (with_reducible show wpAny _ _ (call (Value.ref _) _) _ _ _)); (fail_if_success (with_reducible show wpAny _ _ (call (Value.builtin "list.append") _) _ _ _)); first | walk1 | (dsimp only; walk1)) | (leave1; (try dsimp only)))
    rename Fr _ _ _ _ => FF
    rename News _ _ _ _ => NF
    refine LoopStepU.intro (news₂ := (D1, listOf (ivals (τ' ++ [(apL ea ec (2 * (n : Int)), tA)])).toArray (m1 + 1)) :: (D2, listOf (valsL (μ' ++ [(ea ++ eb ++ ea.reverse, t9)])).toArray (m2 + 1)) :: rest2) FF (kst_newsOf NF ?_) ?_ ⟨_, _, _, _, rfl, ?_, ?_, by walk_at "K"⟩
    · intro p hp
      simp only [List.mem_cons, List.mem_append] at hp ⊢
      rcases hp with h | h | h | h
      · exact .inr (.inr (.inl h))
      · exact .inr (.inl h)
      · exact .inl h
      · exact .inr (.inr (.inr h))
    · intro p hp
      have hpI : p.1 ≠ I := by
        rcases List.mem_cons.mp hp with rfl | hp
        · exact hoffI (D1, listOf (ivals τ').toArray m1) (.head _)
        · rcases List.mem_cons.mp hp with rfl | hp
          · exact hoffI (D2, listOf (valsL μ').toArray m2) (.tail _ (.head _))
          · exact hoffI p (.tail _ (.tail _ hp))
      intro hm
      exact hpI (List.mem_singleton.mp hm)
    · rw [htri, List.map_append, List.map_append, et, List.append_assoc]; rfl
    · rw [htri, List.map_append, List.map_append, em, List.append_assoc]; rfl
  case done =>
    rintro m₁ nx h tk ⟨τ', μ', m1, m2, rfl, et, em, hm⟩ FC NC
    dsimp only
    repeat' (first | (k_unfold; (try dsimp only)) | ((fail_if_success (with_reducible show wpAny _ _ (exec (Stmt.While _ _ _ _) _) _ _ _)); (fail_if_success (with_reducible show wpAny _ _ (exec (Stmt.For _ _ _ _ _) _) _ _ _)); (fail_if_success (with_reducible show wpAny _ _ (pyIter _) _ _ _)); first | walk1 | (dsimp only; walk1)) | (leave1; (try dsimp only)))
    have trl : tr.length = 4 := by rw [← htr]; rfl
    have etr : tr.take 4 = tr := List.take_of_length_le (by omega)
    have et2 : τ'.map (·.1) = τ.map (·.1) ++ (tr.take 4).map (fun t => apL t.1 t.2.2 (2 * (n : Int))) := et
    have em2 : μ'.map (·.1) = μ.map (·.1) ++ (tr.take 4).map (fun t => t.1 ++ t.2.1 ++ t.1.reverse) := em
    rw [etr] at et2 em2
    refine hQ _ _ _ _ ⟨rfl, τ', μ', m1, m2, rfl, et2, em2, hm⟩ FC (kst_newsOf NC ?_) hG rfl
    intro p hp
    rcases List.mem_cons.mp hp with rfl | hp
    · exact .head _
    · rcases List.mem_cons.mp hp with rfl | hp
      · exact .tail _ (.head _)
      · rw [hr2]
        exact .tail _ (.tail _ (.tail _ (.tail _ (.tail _ (.tail _ (.tail _ hp))))))
set_option maxHeartbeats 4000000 in
theorem all9 (q9 : Vt9) : Sp9 q9 := by
  refine @eps_all Vt9 ne9 Sp9 ?_ q9
  have h := core9
  unfold w p loose mean mg mb D1 D2 τ μ m1 m2 rest fr be ne rs bl pa by9 a1 a2 a3 a4 a5 a6 a7 ts tw n W C x y dp un gd A₀ base h₀ L u s Q R at h
  exact h
end law_four_e
set_option maxHeartbeats 4000000 in
theorem law_four (w : World) (p : Program) (loose : List Str) (mean : ExcName → Option Value) (mg mb : Str → Option Value) (D1 D2 : Addr) (τ : List (Int × Tok)) (μ : List (List Nat × Tok)) (m1 m2 : Nat) (rest : CbLed) (fr be ne rs bl pa by9 : List Nat) (a1 a2 a3 a4 a5 a6 a7 ts tw : Tok) (n : Nat) (W : List Nat) (C x y : Addr)
    (hD : D1 ≠ D2) (hoff : ∀ p ∈ rest, p.1 ≠ D1 ∧ p.1 ≠ D2) (l1 : fr.length ≤ 40) (l2 : be.length ≤ 40) (l3 : ne.length ≤ 40) (l4 : rs.length ≤ 40) (l5 : bl.length ≤ 40) (l6 : pa.length ≤ 40) (l7 : by9.length ≤ 40) (hn : n ≤ 6) (cτ : τ.length ≤ 20) (cμ : μ.length ≤ 20) (k1 : 46 ∉ fr) (k2 : 46 ∉ be) (k3 : 46 ∉ ne) (k4 : 46 ∉ rs) (k7 : 46 ∉ by9) : PieG w p loose mean mg mb 30 ((loopB.drop 6).take 1) (fun _ => True)
      (fun u => ∀ p ∈ [(Str.ofString "beyond", Value.str (ofL by9) a1), (Str.ofString "near", Value.str (ofL ne) a2), (Str.ofString "rest", Value.str (ofL rs) a3), (Str.ofString "part", Value.str (ofL pa) a4), (Str.ofString "blanks", Value.str (ofL bl) a5), (Str.ofString "behind", Value.str (ofL be) a6), (Str.ofString "front", Value.str (ofL fr) a7), (Str.ofString "mended", Value.ref D2), (Str.ofString "told", Value.ref D1), (Str.ofString "size", Value.int (n : Nat) ts), (Str.ofString "aft", Value.ref y), (Str.ofString "fore", Value.ref x), (Str.ofString "word", Value.str (ofL W) tw), (Str.ofString "codes", Value.ref C)], u p.1 = some p.2) ((D1, listOf (ivals τ).toArray m1) :: (D2, listOf (valsL μ).toArray m2) :: rest)
      (fun f m' news' => f = .next ∧ ∃ τ' μ' m1 m2, news' = (D1, listOf (ivals τ').toArray m1) :: (D2, listOf (valsL μ').toArray m2) :: rest ∧ τ'.map (·.1) = τ.map (·.1) ++ ([(fr, [], be), (ne, pa, be), (ne, [], by9), (rs, bl, by9)] : List (List Nat × List Nat × List Nat)).map (fun t => apL t.1 t.2.2 (2 * (n : Int))) ∧
        μ'.map (·.1) = μ.map (·.1) ++ ([(fr, [], be), (ne, pa, be), (ne, [], by9), (rs, bl, by9)] : List (List Nat × List Nat × List Nat)).map (fun t => t.1 ++ t.2.1 ++ t.1.reverse) ∧ ∀ p ∈ [(Str.ofString "beyond", Value.str (ofL by9) a1), (Str.ofString "near", Value.str (ofL ne) a2), (Str.ofString "rest", Value.str (ofL rs) a3), (Str.ofString "part", Value.str (ofL pa) a4), (Str.ofString "blanks", Value.str (ofL bl) a5), (Str.ofString "behind", Value.str (ofL be) a6), (Str.ofString "front", Value.str (ofL fr) a7), (Str.ofString "mended", Value.ref D2), (Str.ofString "told", Value.ref D1), (Str.ofString "size", Value.int (n : Nat) ts), (Str.ofString "aft", Value.ref y), (Str.ofString "fore", Value.ref x), (Str.ofString "word", Value.str (ofL W) tw), (Str.ofString "codes", Value.ref C)], m' p.1 = some p.2) := by
  intro dp un gd A₀ base h₀ L u s Q R
  have h := law_four_e.all9 (w, p, loose, mean, mg, mb, D1, D2, τ, μ, m1, m2, rest, fr, be, ne, rs, bl, pa, by9, a1, a2, a3, a4, a5, a6, a7, ts, tw, n, W, C, x, y, dp, un, gd, A₀, base, h₀, L, u, s, Q, R)
  dsimp only [law_four_e.Sp9, law_four_e.St9] at h
  exact h hD hoff l1 l2 l3 l4 l5 l6 l7 hn cτ cμ k1 k2 k3 k4 k7
end Mine
end
section
open PySem PySem.W PyProof.Rows PySem.Calls PySem.Spec
namespace Mine
set_option maxRecDepth 100000 in
set_option maxHeartbeats 8000000 in
/-- line 168: the piece laid on the other pile -/
theorem law_aft (w : World) (p : Program) (loose : List Str) (mean : ExcName → Option Value) (mg mb : Str → Option Value) (x dx y dy : Addr) (n1 n2 : Nat) (t1 t2 t3 t4 : Tok) (A qs : List Pc) (rest : CbLed) (hoff : OffL x dx y dy rest) (c2 : qs.length ≤ 3) (bl pa W : List Nat) (a4 a5 ts tw : Tok) (D1 D2 C : Addr) (n : Nat) :
    PieG w p loose mean mg mb 10 ((loopB.drop 7).take 1) (fun _ => True)
      (fun u => ∀ p ∈ [(Str.ofString "part", Value.str (ofL pa) a4), (Str.ofString "blanks", Value.str (ofL bl) a5), (Str.ofString "mended", Value.ref D2), (Str.ofString "told", Value.ref D1), (Str.ofString "size", Value.int (n : Nat) ts), (Str.ofString "aft", Value.ref y), (Str.ofString "fore", Value.ref x), (Str.ofString "word", Value.str (ofL W) tw), (Str.ofString "codes", Value.ref C)], u p.1 = some p.2) (LedL w x dx y dy n1 n2 t1 t2 t3 t4 A qs rest)
      (fun f m' news' => f = .next ∧ (∀ p ∈ [(Str.ofString "part", Value.str (ofL pa) a4), (Str.ofString "blanks", Value.str (ofL bl) a5), (Str.ofString "mended", Value.ref D2), (Str.ofString "told", Value.ref D1), (Str.ofString "size", Value.int (n : Nat) ts), (Str.ofString "aft", Value.ref y), (Str.ofString "fore", Value.ref x), (Str.ofString "word", Value.str (ofL W) tw), (Str.ofString "codes", Value.ref C)], m' p.1 = some p.2) ∧ (∃ q : Pc, q.tx = (pa, bl) ∧ news' = LedL w x dx y dy n1 (n2 + 1) t1 t2 t3 t4 A (qs ++ [q]) ((q.T, q.obj) :: rest) ∧ (∀ r ∈ LedL w x dx y dy n1 n2 t1 t2 t3 t4 A qs rest, r.1 < q.T))) := by
  unfold PieG P0
  k_fill
  intro dp un gd A₀ base h₀ L u s Q R B F hm hb X N0 T hG hdp hun hQ
  have F1 := fr_norm _ F hm
  clear F hm
  show wpAny (model Challenge.rw_sn0024_01.row.prog w) _ (execs [_] _) _ _ _
  repeat' (first | (k_unfold; (try dsimp only)) | ((fail_if_success (with_reducible show wpAny _ _ (exec (Stmt.While _ _ _ _) _) _ _ _)); (fail_if_success (with_reducible show wpAny _ _ (exec (Stmt.For _ _ _ _ _) _) _ _ _)); (fail_if_success (with_reducible show wpAny _ _ (pyIter _) _ _ _)); (fail_if_success (with_reducible show wpAny _ _ (getMethod (Value.ref _) _ _) _ _ _)); (fail_if_success (with_reducible show wpAny _ _ (call (Value.ref _) _) _ _ _)); first | walk1 | (dsimp only; walk1)) | (leave1; (try dsimp only)))
  rename Fr _ _ _ _ => F2
  dsimp only
  refine acc_meth F2 X N0 (.tail _ (.tail _ (.head _))) (.tail _ (.tail _ (.tail _ (.head _)))) (by k_is) (by k_is) (by kernel_rfl) ?_
  dsimp only
  refine cw2 X rfl rfl ?_
  repeat' (first | (k_unfold; (try dsimp only)) | ((fail_if_success (with_reducible show wpAny _ _ (exec (Stmt.While _ _ _ _) _) _ _ _)); (fail_if_success (with_reducible show wpAny _ _ (exec (Stmt.For _ _ _ _ _) _) _ _ _)); (fail_if_success (with_reducible show wpAny _ _ (pyIter _) _ _ _)); (fail_if_success (with_reducible show wpAny _ _ (getMethod (Value.ref _) _ _) _ _ _)); (fail_if_success (with_reducible show wpAny _ _ (call (Value.ref _) _) _ _ _)); first | walk1 | (dsimp only; walk1)) | (leave1; (try dsimp only)))
  rename Fr _ _ _ _ => F2
  rename News _ _ _ _ => N2
  dsimp only
  obtain ⟨o1, o2, o3, o4, o5, o6, o7⟩ := hoff
  have N3 : News h₀ L _ ((y, accObj dy (pcVals qs) n2) :: (dy, accDict w t3 t4) :: ((x, accObj dx (pcVals A) n1) :: (dx, accDict w t1 t2) :: rest)) := kst_newsOf N2 (by walk_at "S")
  show wpAny _ _ (call (Value.ref 66) [Value.ref y, Value.str (ofL pa) a4, Value.str (ofL bl) a5]) _ _ _
  refine push_ct w p loose mean mg mb _ y dy (pcVals qs) n2 t3 t4 a4 a5 _ _ ?hx (Ne.symm o6) (by rw [List.length_map]; omega) dp un gd _ _ _ _ _ _ _ _ _ _ _ _ _ _ B F2 X N3 T rfl (by omega) (by omega) ?_
  case hx =>
    intro q hq
    simp only [List.mem_cons] at hq
    rcases hq with rfl | rfl | hq
    · exact o2
    · exact o4
    · exact (o7 q hq).2.2.1
  rintro v5 h5 tk5 news5 ⟨rfl, T5, rfl, hT5⟩ F5 N5
  clear F2 N2 N3
  repeat' (first | (k_unfold; (try dsimp only)) | ((fail_if_success (with_reducible show wpAny _ _ (exec (Stmt.While _ _ _ _) _) _ _ _)); (fail_if_success (with_reducible show wpAny _ _ (exec (Stmt.For _ _ _ _ _) _) _ _ _)); (fail_if_success (with_reducible show wpAny _ _ (pyIter _) _ _ _)); (fail_if_success (with_reducible show wpAny _ _ (getMethod (Value.ref _) _ _) _ _ _)); (fail_if_success (with_reducible show wpAny _ _ (call (Value.ref _) _) _ _ _)); first | walk1 | (dsimp only; walk1)) | (leave1; (try dsimp only)))
  rename Fr _ _ _ _ => F6
  rename News _ _ _ _ => N6
  refine hQ _ _ _ (LedL w x dx y dy n1 (n2 + 1) t1 t2 t3 t4 A (qs ++ [⟨T5, pa, a4, bl, a5⟩]) ((T5, Pc.obj ⟨T5, pa, a4, bl, a5⟩) :: rest)) ⟨rfl, by walk_at "K", ⟨T5, pa, a4, bl, a5⟩, rfl, rfl, ?_⟩ F6 (kst_newsOf N6 ?_) hG rfl
  · intro r hr
    simp only [LedL, List.mem_cons] at hr
    rcases hr with rfl | rfl | rfl | rfl | hr
    · exact hT5 (x, accObj dx (pcVals A) n1) (.tail _ (.tail _ (.head _)))
    · exact hT5 (dx, accDict w t1 t2) (.tail _ (.tail _ (.tail _ (.head _))))
    · exact hT5 (y, accObj dy (pcVals qs) n2) (.head _)
    · exact hT5 (dy, accDict w t3 t4) (.tail _ (.head _))
    · exact hT5 r (.tail _ (.tail _ (.tail _ (.tail _ hr))))
  · intro p hp
    simp only [LedL, List.mem_cons, pcVals, List.map_append, List.map_cons, List.map_nil] at hp ⊢
    rcases hp with h | h | h | h | h | h
    · exact .inr (.inr (.inr (.inl h)))
    · exact .inr (.inr (.inr (.inr (.inl h))))
    · exact .inl h
    · exact .inr (.inr (.inl h))
    · exact .inr (.inl h)
    · exact .inr (.inr (.inr (.inr (.inr h))))
end Mine
end
section
open PySem PySem.W PyProof.Rows PySem.Calls PySem.Spec
namespace Mine
def sw (p : List Nat × List Nat) : List Nat × List Nat := (p.2, p.1)
/-- the states of the first i turns -/
def trS (ps : List (List Nat × List Nat)) : Nat → List (List Nat × List Nat × List Nat)
  | 0 => []
  | i + 1 => trS ps i ++ triT (ps.take (2 - i)) (ps.getD (2 - i) ([], [])) ((ps.drop (3 - i)).reverse.map sw)
theorem execs_split {env : Env} (l2 : List Stmt) : ∀ (l1 : List Stmt), execs (l1 ++ l2) env = (execs l1 env >>= fun f => match f with | .next => execs l2 env | f => pure f)
  | [] => rfl
  | st :: l1 => by
    rw [List.cons_append, execs_cons, execs_cons, execs_split l2 l1, LawfulMonad.bind_assoc]
    congr 1
    funext f
    cases f <;> rfl
theorem execs_app {M : Model} {A : Around} {E : Value → Shared → Prop} {env : Env} {Q : Flow → Shared → Prop} {s : Shared} (l1 l2 : List Stmt) (h : wpAny M A (execs l1 env) (fun f s' => match f with | .next => wpAny M A (execs l2 env) Q E s' | f => Q f s') E s) : wpAny M A (execs (l1 ++ l2) env) Q E s := by
  rw [execs_split]
  refine wpAny_bind (wpAny_mono h (fun f s' hf => ?_) fun _ _ z => z)
  cases f <;> first | exact hf | exact wpAny_pure hf
def HpsOk (ps : List (List Nat × List Nat)) : Prop := ps.length = 3 ∧ ∀ t ∈ ps, (t.1.length ≤ 5 ∧ t.2.length ≤ 5) ∧ 46 ∉ t.1 ∧ 46 ∉ t.2
theorem trS_succ (ps : List (List Nat × List Nat)) (i : Nat) : trS ps (i + 1) = trS ps i ++ triT (ps.take (2 - i)) (ps.getD (2 - i) ([], [])) ((ps.drop (3 - i)).reverse.map sw) := rfl
theorem trS_len (ps : List (List Nat × List Nat)) : ∀ i, (trS ps i).length = 4 * i
  | 0 => rfl
  | i + 1 => by
    have h := trS_len ps i
    unfold trS
    rw [List.length_append, h]
    simp [triT]
    omega
theorem flat_no (l : List Pc) (h : ∀ r ∈ l, 46 ∉ r.a ∧ 46 ∉ r.b) : 46 ∉ flatP l := by
  intro hm
  unfold flatP at hm
  obtain ⟨z, hz, hz2⟩ := List.mem_flatten.mp hm
  obtain ⟨r, hr, rfl⟩ := List.mem_map.mp hz
  rcases List.mem_append.mp hz2 with h1 | h1
  · exact (h r hr).1 h1
  · exact (h r hr).2 h1
namespace law_loop_e
def St9 (w : World) (p : Program) (loose : List Str) (mean : ExcName → Option Value) (mg : Str → Option Value) (mb : Str → Option Value) (P : Addr) (x : Addr) (dx : Addr) (y : Addr) (dy : Addr) (C : Addr) (n1 : Nat) (n2 : Nat) (t1 : Tok) (t2 : Tok) (t3 : Tok) (t4 : Tok) (tw : Tok) (ts : Tok) (fs : List Pc) (rest : CbLed) (ps : List (List Nat × List Nat)) (W : List Nat) (dp : Nat) (un : Nat) (gd : Option (List Code)) (A₀ : Around) (base : Heap) (h₀ : Heap) (L : Addr) (u : Str → Option Value) (s : Shared) (Q : Flow → Shared → Prop) (R : Result → Shared → Prop) : Prop :=
  (OffL x dx y dy rest) → (HasP fs rest) → (HpsOk ps) → (fs.map Pc.tx = ps) → (W.length = 5 ∨ W.length = 6) → PieGB w p loose mean mg mb 40 ((lawB.drop 9).take 3) (HbC P)
      (fun u => ∀ p ∈ [(Str.ofString "aft", Value.ref y), (Str.ofString "fore", Value.ref x), (Str.ofString "size", Value.int (W.length : Nat) ts), (Str.ofString "word", Value.str (ofL W) tw), (Str.ofString "codes", Value.ref C)], u p.1 = some p.2) (LedL w x dx y dy n1 n2 t1 t2 t3 t4 fs [] rest)
      (fun f m' news' => f = .next ∧ ∃ D1 D2 τ μ m1 m2 n1 n2 qs rest', news' = (D1, listOf (ivals τ).toArray m1) :: (D2, listOf (valsL μ).toArray m2) :: LedL w x dx y dy n1 n2 t1 t2 t3 t4 [] qs rest' ∧ OffL x dx y dy rest' ∧ HasP qs rest' ∧ qs.map Pc.tx = ps.reverse.map sw ∧ (∀ p ∈ rest, p ∈ rest') ∧
        τ.map (·.1) = (trS ps 3).map (fun t => apL t.1 t.2.2 (2 * (W.length : Int))) ∧ μ.map (·.1) = (trS ps 3).map (fun t => t.1 ++ t.2.1 ++ t.1.reverse) ∧
        ∀ p ∈ [(Str.ofString "mended", Value.ref D2), (Str.ofString "told", Value.ref D1), (Str.ofString "aft", Value.ref y), (Str.ofString "fore", Value.ref x), (Str.ofString "size", Value.int (W.length : Nat) ts), (Str.ofString "word", Value.str (ofL W) tw), (Str.ofString "codes", Value.ref C)], m' p.1 = some p.2) dp un gd A₀ base h₀ L u s Q R
abbrev Vt9 : Type := World × Program × (List Str) × (ExcName → Option Value) × (Str → Option Value) × (Str → Option Value) × Addr × Addr × Addr × Addr × Addr × Addr × Nat × Nat × Tok × Tok × Tok × Tok × Tok × Tok × (List Pc) × CbLed × (List (List Nat × List Nat)) × (List Nat) × Nat × Nat × (Option (List Code)) × Around × Heap × Heap × Addr × (Str → Option Value) × Shared × (Flow → Shared → Prop) × (Result → Shared → Prop)
theorem ne9 : Nonempty Vt9 := by
  obtain ⟨w0⟩ := neW
  exact ⟨w0, default, [], (fun _ => none), (fun _ => none), (fun _ => none), 0, 0, 0, 0, 0, 0, 0, 0, 0, 0, 0, 0, 0, 0, [], [], [], [], 0, 0, none, callerA, {}, {}, 0, (fun _ => none), {}, (fun _ _ => True), (fun _ _ => True)⟩
def Sp9 (t : Vt9) : Prop := St9 (t.1) (t.2.1) (t.2.2.1) (t.2.2.2.1) (t.2.2.2.2.1) (t.2.2.2.2.2.1) (t.2.2.2.2.2.2.1) (t.2.2.2.2.2.2.2.1) (t.2.2.2.2.2.2.2.2.1) (t.2.2.2.2.2.2.2.2.2.1) (t.2.2.2.2.2.2.2.2.2.2.1) (t.2.2.2.2.2.2.2.2.2.2.2.1) (t.2.2.2.2.2.2.2.2.2.2.2.2.1) (t.2.2.2.2.2.2.2.2.2.2.2.2.2.1) (t.2.2.2.2.2.2.2.2.2.2.2.2.2.2.1) (t.2.2.2.2.2.2.2.2.2.2.2.2.2.2.2.1) (t.2.2.2.2.2.2.2.2.2.2.2.2.2.2.2.2.1) (t.2.2.2.2.2.2.2.2.2.2.2.2.2.2.2.2.2.1) (t.2.2.2.2.2.2.2.2.2.2.2.2.2.2.2.2.2.2.1) (t.2.2.2.2.2.2.2.2.2.2.2.2.2.2.2.2.2.2.2.1) (t.2.2.2.2.2.2.2.2.2.2.2.2.2.2.2.2.2.2.2.2.1) (t.2.2.2.2.2.2.2.2.2.2.2.2.2.2.2.2.2.2.2.2.2.1) (t.2.2.2.2.2.2.2.2.2.2.2.2.2.2.2.2.2.2.2.2.2.2.1) (t.2.2.2.2.2.2.2.2.2.2.2.2.2.2.2.2.2.2.2.2.2.2.2.1) (t.2.2.2.2.2.2.2.2.2.2.2.2.2.2.2.2.2.2.2.2.2.2.2.2.1) (t.2.2.2.2.2.2.2.2.2.2.2.2.2.2.2.2.2.2.2.2.2.2.2.2.2.1) (t.2.2.2.2.2.2.2.2.2.2.2.2.2.2.2.2.2.2.2.2.2.2.2.2.2.2.1) (t.2.2.2.2.2.2.2.2.2.2.2.2.2.2.2.2.2.2.2.2.2.2.2.2.2.2.2.1) (t.2.2.2.2.2.2.2.2.2.2.2.2.2.2.2.2.2.2.2.2.2.2.2.2.2.2.2.2.1) (t.2.2.2.2.2.2.2.2.2.2.2.2.2.2.2.2.2.2.2.2.2.2.2.2.2.2.2.2.2.1) (t.2.2.2.2.2.2.2.2.2.2.2.2.2.2.2.2.2.2.2.2.2.2.2.2.2.2.2.2.2.2.1) (t.2.2.2.2.2.2.2.2.2.2.2.2.2.2.2.2.2.2.2.2.2.2.2.2.2.2.2.2.2.2.2.1) (t.2.2.2.2.2.2.2.2.2.2.2.2.2.2.2.2.2.2.2.2.2.2.2.2.2.2.2.2.2.2.2.2.1) (t.2.2.2.2.2.2.2.2.2.2.2.2.2.2.2.2.2.2.2.2.2.2.2.2.2.2.2.2.2.2.2.2.2.1) (t.2.2.2.2.2.2.2.2.2.2.2.2.2.2.2.2.2.2.2.2.2.2.2.2.2.2.2.2.2.2.2.2.2.2)
noncomputable def c9 : Vt9 := @Classical.epsilon Vt9 ne9 fun t => ¬ Sp9 t
@[irreducible] noncomputable def w : World := c9.1
@[irreducible] noncomputable def p : Program := c9.2.1
@[irreducible] noncomputable def loose : List Str := c9.2.2.1
@[irreducible] noncomputable def mean : ExcName → Option Value := c9.2.2.2.1
@[irreducible] noncomputable def mg : Str → Option Value := c9.2.2.2.2.1
@[irreducible] noncomputable def mb : Str → Option Value := c9.2.2.2.2.2.1
@[irreducible] noncomputable def P : Addr := c9.2.2.2.2.2.2.1
@[irreducible] noncomputable def x : Addr := c9.2.2.2.2.2.2.2.1
@[irreducible] noncomputable def dx : Addr := c9.2.2.2.2.2.2.2.2.1
@[irreducible] noncomputable def y : Addr := c9.2.2.2.2.2.2.2.2.2.1
@[irreducible] noncomputable def dy : Addr := c9.2.2.2.2.2.2.2.2.2.2.1
@[irreducible] noncomputable def C : Addr := c9.2.2.2.2.2.2.2.2.2.2.2.1
@[irreducible] noncomputable def n1 : Nat := c9.2.2.2.2.2.2.2.2.2.2.2.2.1
@[irreducible] noncomputable def n2 : Nat := c9.2.2.2.2.2.2.2.2.2.2.2.2.2.1
@[irreducible] noncomputable def t1 : Tok := c9.2.2.2.2.2.2.2.2.2.2.2.2.2.2.1
@[irreducible] noncomputable def t2 : Tok := c9.2.2.2.2.2.2.2.2.2.2.2.2.2.2.2.1
@[irreducible] noncomputable def t3 : Tok := c9.2.2.2.2.2.2.2.2.2.2.2.2.2.2.2.2.1
@[irreducible] noncomputable def t4 : Tok := c9.2.2.2.2.2.2.2.2.2.2.2.2.2.2.2.2.2.1
@[irreducible] noncomputable def tw : Tok := c9.2.2.2.2.2.2.2.2.2.2.2.2.2.2.2.2.2.2.1
@[irreducible] noncomputable def ts : Tok := c9.2.2.2.2.2.2.2.2.2.2.2.2.2.2.2.2.2.2.2.1
@[irreducible] noncomputable def fs : List Pc := c9.2.2.2.2.2.2.2.2.2.2.2.2.2.2.2.2.2.2.2.2.1
@[irreducible] noncomputable def rest : CbLed := c9.2.2.2.2.2.2.2.2.2.2.2.2.2.2.2.2.2.2.2.2.2.1
@[irreducible] noncomputable def ps : List (List Nat × List Nat) := c9.2.2.2.2.2.2.2.2.2.2.2.2.2.2.2.2.2.2.2.2.2.2.1
@[irreducible] noncomputable def W : List Nat := c9.2.2.2.2.2.2.2.2.2.2.2.2.2.2.2.2.2.2.2.2.2.2.2.1
@[irreducible] noncomputable def dp : Nat := c9.2.2.2.2.2.2.2.2.2.2.2.2.2.2.2.2.2.2.2.2.2.2.2.2.1
@[irreducible] noncomputable def un : Nat := c9.2.2.2.2.2.2.2.2.2.2.2.2.2.2.2.2.2.2.2.2.2.2.2.2.2.1
@[irreducible] noncomputable def gd : Option (List Code) := c9.2.2.2.2.2.2.2.2.2.2.2.2.2.2.2.2.2.2.2.2.2.2.2.2.2.2.1
@[irreducible] noncomputable def A₀ : Around := c9.2.2.2.2.2.2.2.2.2.2.2.2.2.2.2.2.2.2.2.2.2.2.2.2.2.2.2.1
@[irreducible] noncomputable def base : Heap := c9.2.2.2.2.2.2.2.2.2.2.2.2.2.2.2.2.2.2.2.2.2.2.2.2.2.2.2.2.1
@[irreducible] noncomputable def h₀ : Heap := c9.2.2.2.2.2.2.2.2.2.2.2.2.2.2.2.2.2.2.2.2.2.2.2.2.2.2.2.2.2.1
@[irreducible] noncomputable def L : Addr := c9.2.2.2.2.2.2.2.2.2.2.2.2.2.2.2.2.2.2.2.2.2.2.2.2.2.2.2.2.2.2.1
@[irreducible] noncomputable def u : Str → Option Value := c9.2.2.2.2.2.2.2.2.2.2.2.2.2.2.2.2.2.2.2.2.2.2.2.2.2.2.2.2.2.2.2.1
@[irreducible] noncomputable def s : Shared := c9.2.2.2.2.2.2.2.2.2.2.2.2.2.2.2.2.2.2.2.2.2.2.2.2.2.2.2.2.2.2.2.2.1
@[irreducible] noncomputable def Q : Flow → Shared → Prop := c9.2.2.2.2.2.2.2.2.2.2.2.2.2.2.2.2.2.2.2.2.2.2.2.2.2.2.2.2.2.2.2.2.2.1
@[irreducible] noncomputable def R : Result → Shared → Prop := c9.2.2.2.2.2.2.2.2.2.2.2.2.2.2.2.2.2.2.2.2.2.2.2.2.2.2.2.2.2.2.2.2.2.2
set_option maxRecDepth 100000 in
set_option maxHeartbeats 8000000 in
theorem core9 : St9 w p loose mean mg mb P x dx y dy C n1 n2 t1 t2 t3 t4 tw ts fs rest ps W dp un gd A₀ base h₀ L u s Q R := by
  unfold St9 PieGB P0
  k_fill
  intro hoff hP hps hfs h56 B F hm hb X N0 T hG hdp hun hQ
  have F1 := fr_norm _ F hm
  clear F hm
  have rs1 : Builtin.Range.small 0 (W.length : Nat) 2 = true := by rcases h56 with h | h <;> rw [h] <;> decide
  have rs2 : Builtin.Range.rangeSize 0 (W.length : Nat) 2 = ((3 : Nat) : Int) := by rcases h56 with h | h <;> rw [h] <;> decide
  show wpAny (model Challenge.rw_sn0024_01.row.prog w) _ (execs [_, _, _] _) _ _ _
  repeat' (first | (k_unfold; (try dsimp only)) | ((fail_if_success (with_reducible show wpAny _ _ (exec (Stmt.While _ _ _ _) _) _ _ _)); (fail_if_success (with_reducible show wpAny _ _ (exec (Stmt.For _ _ _ _ _) _) _ _ _)); (fail_if_success (with_reducible show wpAny _ _ (pyIter _) _ _ _)); (fail_if_success (with_reducible show wpAny _ _ (getMethod (Value.ref _) _ _) _ _ _)); (fail_if_success (with_reducible show wpAny _ _ (call (Value.ref _) _) _ _ _)); first | walk1 | (dsimp only; walk1)) | (leave1; (try dsimp only)))
  rename Fr _ _ _ _ => F2
  rename News _ _ _ _ => N2
  rename _ < _ ∧ _ < _ ∧ _ < _ ∧ _ < _ ∧ _ < _ ∧ AllLt _ _ => q2
  rename _ < _ ∧ _ < _ ∧ _ < _ ∧ _ < _ ∧ AllLt _ _ => q1
  obtain ⟨D1, D2, F3, N3, hD, hO1⟩ : ∃ D1 D2, Fr h₀ L _ (fun y_1 => if y_1 = Str.ofString "mended" then some (Value.ref D2) else if y_1 = Str.ofString "told" then some (Value.ref D1) else kstB u [(Str.ofString "aft", Value.ref y), (Str.ofString "fore", Value.ref x), (Str.ofString "size", Value.int (W.length : Nat) ts), (Str.ofString "word", Value.str (ofL W) tw), (Str.ofString "codes", Value.ref C)] y_1) ∧ News h₀ L _ ((D1, listOf (ivals []).toArray 0) :: (D2, listOf (valsL []).toArray 0) :: LedL w x dx y dy n1 n2 t1 t2 t3 t4 fs [] rest) ∧ D1 ≠ D2 ∧ (∀ p ∈ LedL w x dx y dy n1 n2 t1 t2 t3 t4 fs [] rest, p.1 ≠ D1 ∧ p.1 ≠ D2) := by
    refine ⟨_, _, F2, kst_newsOf N2 ?_, Nat.ne_of_lt q2.1, ?_⟩
    · walk_at "S"
    · exact List.forall_mem_cons.mpr ⟨⟨Nat.ne_of_lt q1.1, Nat.ne_of_lt q2.2.1⟩, List.forall_mem_cons.mpr ⟨⟨Nat.ne_of_lt q1.2.1, Nat.ne_of_lt q2.2.2.1⟩, List.forall_mem_cons.mpr ⟨⟨Nat.ne_of_lt q1.2.2.1, Nat.ne_of_lt q2.2.2.2.1⟩, List.forall_mem_cons.mpr ⟨⟨Nat.ne_of_lt q1.2.2.2.1, Nat.ne_of_lt q2.2.2.2.2.1⟩, fun p hp => ⟨Nat.ne_of_lt (allLt_all q1.2.2.2.2 p hp), Nat.ne_of_lt (allLt_all q2.2.2.2.2.2 p hp)⟩⟩⟩⟩⟩
  clear q1 q2 F2 N2
  refine for_rngG (hb := h₀) 0 2 3 s.os (fun i m nx => (∃ A qs τ μ m1 m2 n1 n2 rest', nx = (D1, listOf (ivals τ).toArray m1) :: (D2, listOf (valsL μ).toArray m2) :: LedL w x dx y dy n1 n2 t1 t2 t3 t4 A qs rest' ∧ OffL x dx y dy rest' ∧ HasP A rest' ∧ HasP qs rest' ∧ A.map Pc.tx = ps.take (3 - i) ∧ qs.map Pc.tx = (ps.drop (3 - i)).reverse.map sw ∧ (∀ p ∈ rest, p ∈ rest') ∧
      τ.map (·.1) = (trS ps i).map (fun t => apL t.1 t.2.2 (2 * (W.length : Int))) ∧ μ.map (·.1) = (trS ps i).map (fun t => t.1 ++ t.2.1 ++ t.1.reverse) ∧ (∀ p ∈ LedL w x dx y dy n1 n2 t1 t2 t3 t4 A qs rest', p.1 ≠ D1 ∧ p.1 ≠ D2)) ∧ ∀ p ∈ [(Str.ofString "mended", Value.ref D2), (Str.ofString "told", Value.ref D1), (Str.ofString "aft", Value.ref y), (Str.ofString "fore", Value.ref x), (Str.ofString "size", Value.int (W.length : Nat) ts), (Str.ofString "word", Value.str (ofL W) tw), (Str.ofString "codes", Value.ref C)], m p.1 = some p.2) rfl rfl rfl ?iter ?turn ?done
  case iter =>
    repeat' (first | (k_unfold; (try dsimp only)) | ((fail_if_success (with_reducible show wpAny _ _ (exec (Stmt.While _ _ _ _) _) _ _ _)); (fail_if_success (with_reducible show wpAny _ _ (exec (Stmt.For _ _ _ _ _) _) _ _ _)); (fail_if_success (with_reducible show wpAny _ _ (pyIter _) _ _ _)); (fail_if_success (with_reducible show wpAny _ _ (getMethod (Value.ref _) _ _) _ _ _)); (fail_if_success (with_reducible show wpAny _ _ (call (Value.ref _) _) _ _ _)); first | walk1 | (dsimp only; walk1)) | (leave1; (try dsimp only)))
    rename IsRange _ _ _ _ _ _ _ _ => R7
    rename Fr _ _ _ _ => F6
    rename News _ _ _ _ => N7
    refine RngIn.mk (s₁ := { s with heap := _, toks := _ }) R7 rs1 rs2 F6 N7 hG rfl ?_
    exact ⟨⟨fs, [], [], [], 0, 0, n1, n2, rest, rfl, hoff, hP, by simp [HasP], by rw [hfs]; exact (List.take_of_length_le (by rw [hps.1]; decide)).symm, by rw [List.drop_of_length_le (by rw [hps.1]; decide)]; rfl, fun p hp => hp, rfl, rfl, hO1⟩, by walk_at "K"⟩
  case turn =>
    rintro i m nx s' I t hi ⟨⟨A, qs, τ, μ, m1, m2, n1, n2, rest', rfl, ho, hA, hQs, eA, eQ, hr, eT, eM, hO⟩, hm⟩ hI F6 N7 G7 os7
    obtain ⟨A', q, rfl⟩ : ∃ A' q, A = A' ++ [q] := by
      rcases List.eq_nil_or_concat A with rfl | ⟨A', q, h⟩
      · exfalso
        have := congrArg List.length eA
        rw [List.length_take, hps.1] at this
        simp at this
        omega
      · exact ⟨A', q, by simpa using h⟩
    have hlt : 2 - i < ps.length := by rw [hps.1]; omega
    have hg : ps.getD (2 - i) ([], []) = ps[2 - i] := by simp [List.getD_eq_getElem?_getD, hlt]
    have htake : ps.take (3 - i) = ps.take (2 - i) ++ [ps.getD (2 - i) ([], [])] := by
      rw [show 3 - i = (2 - i) + 1 from by omega, List.take_succ, hg]
      simp [hlt]
    have hdrop : ps.drop (2 - i) = ps.getD (2 - i) ([], []) :: ps.drop (3 - i) := by
      rw [List.drop_eq_getElem_cons hlt, hg, show 2 - i + 1 = 3 - i from by omega]
    have eA0 := eA
    rw [List.map_append, htake] at eA
    obtain ⟨eA1, eA2⟩ := List.append_inj' eA rfl
    have eq9 : q.tx = ps.getD (2 - i) ([], []) := by simpa using eA2
    have inA : ∀ r ∈ A' ++ [q], r.tx ∈ ps := fun r hr => List.mem_of_mem_take (eA0 ▸ List.mem_map_of_mem (f := Pc.tx) hr)
    have inQ : ∀ r ∈ qs, (r.b, r.a) ∈ ps := fun r hr => by
      have z : r.tx ∈ (ps.drop (3 - i)).reverse.map sw := eQ ▸ List.mem_map_of_mem (f := Pc.tx) hr
      obtain ⟨t, ht, e⟩ := List.mem_map.mp z
      have : (r.b, r.a) = t := by
        have e' : sw t = r.tx := e
        obtain ⟨ta, tb⟩ := t
        simp only [sw, Pc.tx, Prod.mk.injEq] at e'
        rw [← e'.1, ← e'.2]
      rw [this]
      exact List.mem_of_mem_drop (List.mem_reverse.mp ht)
    have lA : (A' ++ [q]).length = 3 - i := by
      have := congrArg List.length eA0
      rw [List.length_map, List.length_take, hps.1] at this
      omega
    have lQ : qs.length = i := by
      have := congrArg List.length eQ
      rw [List.length_map, List.length_map, List.length_reverse, List.length_drop, hps.1] at this
      omega
    have lA' : A'.length = 2 - i := by rw [List.length_append] at lA; simp at lA; omega
    have okA : PsOk 4 (A' ++ [q]) := ⟨by omega, fun r hr => (hps.2 _ (inA r hr)).1⟩
    have okA' : PsOk 3 A' := ⟨by omega, fun r hr => (hps.2 _ (inA r (List.mem_append_left _ hr))).1⟩
    have okQ : PsOk 3 qs := ⟨by omega, fun r hr => ⟨(hps.2 _ (inQ r hr)).1.2, (hps.2 _ (inQ r hr)).1.1⟩⟩
    have okQ4 : PsOk 4 qs := ⟨by omega, okQ.2⟩
    have okA4 : PsOk 4 A' := ⟨by omega, okA'.2⟩
    have f1 := okA.flat
    have f2 := okA'.flat
    have f3 := okQ.flat
    have nA := flat_no _ (fun r hr => (hps.2 _ (inA r hr)).2)
    have nA' := flat_no A' (fun r hr => (hps.2 _ (inA r (List.mem_append_left _ hr))).2)
    have nQ := flat_no qs (fun r hr => ⟨(hps.2 _ (inQ r hr)).2.2, (hps.2 _ (inQ r hr)).2.1⟩)
    have gq := hps.2 _ (inA q (List.mem_append_right _ (.head _)))
    have gq1 : q.a.length ≤ 5 := gq.1.1
    have gq2 : q.b.length ≤ 5 := gq.1.2
    have ltr4 := trS_len ps i
    have cτ : τ.length ≤ 20 := by have := congrArg List.length eT; rw [List.length_map, List.length_map, ltr4] at this; omega
    have cμ : μ.length ≤ 20 := by have := congrArg List.length eM; rw [List.length_map, List.length_map, ltr4] at this; omega
    clear inA inQ eA2 hg htake okA' okQ
    have F7 := fr_loop [(Str.ofString "mended", Value.ref D2), (Str.ofString "told", Value.ref D1), (Str.ofString "aft", Value.ref y), (Str.ofString "fore", Value.ref x), (Str.ofString "size", Value.int (W.length : Nat) ts), (Str.ofString "word", Value.str (ofL W) tw), (Str.ofString "codes", Value.ref C)] F6 hm
    clear F6
    obtain ⟨o1, o2, o3, o4, o5, o6, o7⟩ := ho
    have hx := hO (x, accObj dx (pcVals (A' ++ [q])) n1) (.head _)
    have hdx := hO (dx, accDict w t1 t2) (.tail _ (.head _))
    have hy := hO (y, accObj dy (pcVals qs) n2) (.tail _ (.tail _ (.head _)))
    have hdy := hO (dy, accDict w t3 t4) (.tail _ (.tail _ (.tail _ (.head _))))
    have ix := hI (x, accObj dx (pcVals (A' ++ [q])) n1) (.tail _ (.tail _ (.head _)))
    have idx := hI (dx, accDict w t1 t2) (.tail _ (.tail _ (.tail _ (.head _))))
    have iy := hI (y, accObj dy (pcVals qs) n2) (.tail _ (.tail _ (.tail _ (.tail _ (.head _)))))
    have idy := hI (dy, accDict w t3 t4) (.tail _ (.tail _ (.tail _ (.tail _ (.tail _ (.head _))))))
    have i1 := hI (D1, listOf (ivals τ).toArray m1) (.head _)
    have i2 := hI (D2, listOf (valsL μ).toArray m2) (.tail _ (.head _))
    have hoT : ∀ (o1' o2' : Obj), OffL x dx y dy ((D1, o1') :: (D2, o2') :: (I, itObj (0 + ((i + 1 : Nat) : Int) * 2) (((3 : Nat) : Int) - ((i + 1 : Nat) : Int)) 2) :: rest') := fun o1' o2' => ⟨o1, o2, o3, o4, o5, o6, List.forall_mem_cons.mpr ⟨⟨Ne.symm hx.1, Ne.symm hdx.1, Ne.symm hy.1, Ne.symm hdy.1⟩, List.forall_mem_cons.mpr ⟨⟨Ne.symm hx.2, Ne.symm hdx.2, Ne.symm hy.2, Ne.symm hdy.2⟩, List.forall_mem_cons.mpr ⟨⟨Ne.symm ix, Ne.symm idx, Ne.symm iy, Ne.symm idy⟩, o7⟩⟩⟩⟩
    have NT : News h₀ L s'.heap (LedL w x dx y dy n1 n2 t1 t2 t3 t4 (A' ++ [q]) qs ((D1, listOf (ivals τ).toArray m1) :: (D2, listOf (valsL μ).toArray m2) :: (I, itObj (0 + ((i + 1 : Nat) : Int) * 2) (((3 : Nat) : Int) - ((i + 1 : Nat) : Int)) 2) :: rest')) := kst_newsOf N7 (by walk_at "S")
    clear N7
    show wpAny _ _ (execs (loopB.take 6 ++ ((loopB.drop 6).take 1 ++ (loopB.drop 7).take 1)) _) _ _ _
    refine execs_app _ _ ?_
    refine law_texts w p loose mean mg mb P x dx y dy n1 n2 t1 t2 t3 t4 A' qs q _ (hoT _ _) (fun r hr => .tail _ (.tail _ (.tail _ (hA r hr)))) (fun r hr => .tail _ (.tail _ (.tail _ (hQs r hr)))) okA okQ4 okA4 D1 D2 W.length ts W tw C dp un gd A₀ base h₀ L _ s' _ R B F7 (by walk_at "K") hb X NT T G7 (by omega) (by omega) ?_
    rintro f s2 m5 news5 ⟨rfl, rfl, b1, b2, b3, b4, b5, hm5⟩ F8 N8 G8 os8
    clear F7 NT
    dsimp only
    refine execs_app _ _ ?_
    have N9 : News h₀ L s2.heap ((D1, listOf (ivals τ).toArray m1) :: (D2, listOf (valsL μ).toArray m2) :: ((I, itObj (0 + ((i + 1 : Nat) : Int) * 2) (((3 : Nat) : Int) - ((i + 1 : Nat) : Int)) 2) :: LedL w x dx y dy (n1 + 1) n2 t1 t2 t3 t4 A' qs rest')) := kst_newsOf N8 (by walk_at "S")
    clear N8
    refine law_four w p loose mean mg mb D1 D2 τ μ m1 m2 _ (flatP (A' ++ [q])) (flatP qs) (flatP A' ++ q.a) (flatP A') q.a q.b (flatP qs ++ q.b) b1 b2 b3 q.tb q.ta b4 b5 ts tw W.length W C x y hD ?off (by omega) (by omega) (by rw [List.length_append]; omega) (by omega) (by omega) (by omega) (by rw [List.length_append]; omega) (by omega) cτ cμ nA nQ (by rw [List.mem_append]; exact fun h => h.elim nA' gq.2.1) nA' (by rw [List.mem_append]; exact fun h => h.elim nQ gq.2.2) dp un gd A₀ base h₀ L _ s2 _ R B F8 (names_sub hm5 (by walk_at "S")) trivial X N9 T G8 (by omega) (by omega) ?_
    case off =>
      exact List.forall_mem_cons.mpr ⟨⟨Ne.symm i1, Ne.symm i2⟩, List.forall_mem_cons.mpr ⟨hx, List.forall_mem_cons.mpr ⟨hdx, List.forall_mem_cons.mpr ⟨hy, List.forall_mem_cons.mpr ⟨hdy, fun p hp => hO p (.tail _ (.tail _ (.tail _ (.tail _ hp))))⟩⟩⟩⟩⟩
    rintro f s3 m6 news6 ⟨rfl, τ', μ', m1', m2', rfl, eτ, eμ, hm6⟩ F10 N10 G10 os10
    clear F8 N9
    dsimp only
    have N11 : News h₀ L s3.heap (LedL w x dx y dy (n1 + 1) n2 t1 t2 t3 t4 A' qs ((D1, listOf (ivals τ').toArray m1') :: (D2, listOf (valsL μ').toArray m2') :: (I, itObj (0 + ((i + 1 : Nat) : Int) * 2) (((3 : Nat) : Int) - ((i + 1 : Nat) : Int)) 2) :: rest')) := kst_newsOf N10 (by walk_at "S")
    clear N10
    refine law_aft w p loose mean mg mb x dx y dy (n1 + 1) n2 t1 t2 t3 t4 A' qs _ (hoT _ _) (by omega) q.a q.b W q.tb q.ta ts tw D1 D2 C W.length dp un gd A₀ base h₀ L _ s3 _ R B F10 (names_sub hm6 (by walk_at "S")) trivial X N11 T G10 (by omega) (by omega) ?_
    rintro f s4 m7 news7 ⟨rfl, hm7, qn, eqn, rfl, hlt7⟩ F12 N12 G12 os12
    clear F10 N11
    have etri : ([(flatP (A' ++ [q]), [], flatP qs), (flatP A' ++ q.a, q.b, flatP qs), (flatP A' ++ q.a, [], flatP qs ++ q.b), (flatP A', q.a, flatP qs ++ q.b)] : List (List Nat × List Nat × List Nat)) = triT (ps.take (2 - i)) (ps.getD (2 - i) ([], [])) ((ps.drop (3 - i)).reverse.map sw) := by
      rw [← eA1, ← eq9, ← eQ, flatP_tx, flatP_tx, flatP_tx, List.map_append]
      rfl
    have td1 : D1 < qn.T := hlt7 (D1, listOf (ivals τ').toArray m1') (.tail _ (.tail _ (.tail _ (.tail _ (.head _)))))
    have td2 : D2 < qn.T := hlt7 (D2, listOf (valsL μ').toArray m2') (.tail _ (.tail _ (.tail _ (.tail _ (.tail _ (.head _))))))
    have tI : I < qn.T := hlt7 (I, itObj (0 + ((i + 1 : Nat) : Int) * 2) (((3 : Nat) : Int) - ((i + 1 : Nat) : Int)) 2) (.tail _ (.tail _ (.tail _ (.tail _ (.tail _ (.tail _ (.head _)))))))
    have tx : x < qn.T := hlt7 (x, accObj dx (pcVals A') (n1 + 1)) (.head _)
    have tdx : dx < qn.T := hlt7 (dx, accDict w t1 t2) (.tail _ (.head _))
    have ty : y < qn.T := hlt7 (y, accObj dy (pcVals qs) n2) (.tail _ (.tail _ (.head _)))
    have tdy : dy < qn.T := hlt7 (dy, accDict w t3 t4) (.tail _ (.tail _ (.tail _ (.head _))))
    refine RngTurn.mk (nx' := (D1, listOf (ivals τ').toArray m1') :: (D2, listOf (valsL μ').toArray m2') :: LedL w x dx y dy (n1 + 1) (n2 + 1) t1 t2 t3 t4 A' (qs ++ [qn]) ((qn.T, qn.obj) :: rest')) F12 (kst_newsOf N12 ?nn) ?oI ⟨⟨A', qs ++ [qn], τ', μ', m1', m2', n1 + 1, n2 + 1, (qn.T, qn.obj) :: rest', rfl, ⟨o1, o2, o3, o4, o5, o6, ?o7⟩, fun r hr => .tail _ (hA r (List.mem_append_left _ hr)), ?hQ, ?eA, ?eQ, fun p hp => .tail _ (hr p hp), ?eT, ?eM, ?hO⟩, ?nm⟩ G12 (os12.trans (os10.trans (os8.trans os7)))
    case nn =>
      walk_at "S"
    case oI =>
      exact List.forall_mem_cons.mpr ⟨i1, List.forall_mem_cons.mpr ⟨i2, List.forall_mem_cons.mpr ⟨ix, List.forall_mem_cons.mpr ⟨idx, List.forall_mem_cons.mpr ⟨iy, List.forall_mem_cons.mpr ⟨idy, List.forall_mem_cons.mpr ⟨(Nat.ne_of_gt tI), fun p hp => hI p (.tail _ (.tail _ (.tail _ (.tail _ (.tail _ (.tail _ hp))))))⟩⟩⟩⟩⟩⟩⟩
    case o7 =>
      intro p hp
      rcases List.mem_cons.mp hp with rfl | hp
      · exact ⟨Nat.ne_of_gt tx, Nat.ne_of_gt tdx, Nat.ne_of_gt ty, Nat.ne_of_gt tdy⟩
      · exact o7 p hp
    case hQ =>
      intro r hr
      rcases List.mem_append.mp hr with hr | hr
      · exact .tail _ (hQs r hr)
      · rw [List.mem_singleton.mp hr]; exact .head _
    case eA =>
      rw [show 3 - (i + 1) = 2 - i from by omega]; exact eA1
    case eQ =>
      have e9 : [qn].map Pc.tx = [ps.getD (2 - i) ([], [])].map sw := by
        rw [← eq9]
        show [qn.tx] = [sw q.tx]
        rw [eqn]; rfl
      rw [show 3 - (i + 1) = 2 - i from by omega, hdrop, List.reverse_cons, List.map_append, List.map_append, eQ, e9]
    case eT =>
      rw [eτ, eT, trS_succ, List.map_append, etri]
    case eM =>
      rw [eμ, eM, trS_succ, List.map_append, etri]
    case hO =>
      exact List.forall_mem_cons.mpr ⟨hx, List.forall_mem_cons.mpr ⟨hdx, List.forall_mem_cons.mpr ⟨hy, List.forall_mem_cons.mpr ⟨hdy, List.forall_mem_cons.mpr ⟨⟨Nat.ne_of_gt td1, Nat.ne_of_gt td2⟩, fun p hp => hO p (.tail _ (.tail _ (.tail _ (.tail _ hp))))⟩⟩⟩⟩⟩
    case nm =>
      exact names_sub hm7 (by walk_at "S")
  case done =>
    rintro m nx s' ⟨⟨A, qs, τ, μ, m1, m2, n1, n2, rest', rfl, ho, hA, hQs, eA, eQ, hr, eT, eM, hO⟩, hm⟩ F6 N7 G7 os7
    dsimp only
    repeat' (first | (k_unfold; (try dsimp only)) | ((fail_if_success (with_reducible show wpAny _ _ (exec (Stmt.While _ _ _ _) _) _ _ _)); (fail_if_success (with_reducible show wpAny _ _ (exec (Stmt.For _ _ _ _ _) _) _ _ _)); (fail_if_success (with_reducible show wpAny _ _ (pyIter _) _ _ _)); (fail_if_success (with_reducible show wpAny _ _ (getMethod (Value.ref _) _ _) _ _ _)); (fail_if_success (with_reducible show wpAny _ _ (call (Value.ref _) _) _ _ _)); first | walk1 | (dsimp only; walk1)) | (leave1; (try dsimp only)))
    obtain rfl : A = [] := by
      have := congrArg List.length eA
      simp at this
      exact this
    exact hQ _ _ _ _ ⟨rfl, D1, D2, τ, μ, m1, m2, n1, n2, qs, rest', rfl, ho, hQs, by rw [eQ]; rfl, hr, eT, eM, hm⟩ F6 N7 G7 os7
set_option maxHeartbeats 4000000 in
theorem all9 (q9 : Vt9) : Sp9 q9 := by
  refine @eps_all Vt9 ne9 Sp9 ?_ q9
  have h := core9
  unfold w p loose mean mg mb P x dx y dy C n1 n2 t1 t2 t3 t4 tw ts fs rest ps W dp un gd A₀ base h₀ L u s Q R at h
  exact h
end law_loop_e
set_option maxHeartbeats 4000000 in
theorem law_loop (w : World) (p : Program) (loose : List Str) (mean : ExcName → Option Value) (mg mb : Str → Option Value) (P x dx y dy C : Addr) (n1 n2 : Nat) (t1 t2 t3 t4 tw ts : Tok) (fs : List Pc) (rest : CbLed) (hoff : OffL x dx y dy rest) (hP : HasP fs rest) (ps : List (List Nat × List Nat)) (hps : HpsOk ps) (hfs : fs.map Pc.tx = ps) (W : List Nat) (h56 : W.length = 5 ∨ W.length = 6) : PieG w p loose mean mg mb 40 ((lawB.drop 9).take 3) (HbC P)
      (fun u => ∀ p ∈ [(Str.ofString "aft", Value.ref y), (Str.ofString "fore", Value.ref x), (Str.ofString "size", Value.int (W.length : Nat) ts), (Str.ofString "word", Value.str (ofL W) tw), (Str.ofString "codes", Value.ref C)], u p.1 = some p.2) (LedL w x dx y dy n1 n2 t1 t2 t3 t4 fs [] rest)
      (fun f m' news' => f = .next ∧ ∃ D1 D2 τ μ m1 m2 n1 n2 qs rest', news' = (D1, listOf (ivals τ).toArray m1) :: (D2, listOf (valsL μ).toArray m2) :: LedL w x dx y dy n1 n2 t1 t2 t3 t4 [] qs rest' ∧ OffL x dx y dy rest' ∧ HasP qs rest' ∧ qs.map Pc.tx = ps.reverse.map sw ∧ (∀ p ∈ rest, p ∈ rest') ∧
        τ.map (·.1) = (trS ps 3).map (fun t => apL t.1 t.2.2 (2 * (W.length : Int))) ∧ μ.map (·.1) = (trS ps 3).map (fun t => t.1 ++ t.2.1 ++ t.1.reverse) ∧
        ∀ p ∈ [(Str.ofString "mended", Value.ref D2), (Str.ofString "told", Value.ref D1), (Str.ofString "aft", Value.ref y), (Str.ofString "fore", Value.ref x), (Str.ofString "size", Value.int (W.length : Nat) ts), (Str.ofString "word", Value.str (ofL W) tw), (Str.ofString "codes", Value.ref C)], m' p.1 = some p.2) := by
  intro dp un gd A₀ base h₀ L u s Q R
  have h := law_loop_e.all9 (w, p, loose, mean, mg, mb, P, x, dx, y, dy, C, n1, n2, t1, t2, t3, t4, tw, ts, fs, rest, ps, W, dp, un, gd, A₀, base, h₀, L, u, s, Q, R)
  dsimp only [law_loop_e.Sp9, law_loop_e.St9] at h
  exact h hoff hP hps hfs h56
end Mine
end
section
open PySem PySem.W PyProof.Rows PySem.Calls PySem.Spec
namespace Mine
set_option maxRecDepth 100000 in
set_option maxHeartbeats 8000000 in
/-- lines 170 and 171: the word turned round, the least price -/
theorem law_mirror (w : World) (p : Program) (loose : List Str) (mean : ExcName → Option Value) (mg mb : Str → Option Value) (P x dx y dy C : Addr) (n1 n2 : Nat) (t1 t2 t3 t4 tw ts : Tok) (qs : List Pc) (rest : CbLed) (cv : List Value) (nc : Nat) (codes : List Nat) (hi : IntsAre cv (codes.map fun (c : Nat) => (c : Int))) (hcv : cv.length = 5 ∨ cv.length = 6) (hC : (C, listOf cv.toArray nc) ∈ rest) (hQs : HasP qs rest) (okQ : PsOk 4 qs) (D1 D2 : Addr) (o1 o2 : Obj) (W : List Nat) :
    PieG w p loose mean mg mb 20 ((lawB.drop 12).take 2) (HbC P)
      (fun u => ∀ p ∈ [(Str.ofString "mended", Value.ref D2), (Str.ofString "told", Value.ref D1), (Str.ofString "aft", Value.ref y), (Str.ofString "fore", Value.ref x), (Str.ofString "size", Value.int (W.length : Nat) ts), (Str.ofString "word", Value.str (ofL W) tw), (Str.ofString "codes", Value.ref C)], u p.1 = some p.2) ((D1, o1) :: (D2, o2) :: LedL w x dx y dy n1 n2 t1 t2 t3 t4 [] qs rest)
      (fun f m' news' => f = .next ∧ news' = (D1, o1) :: (D2, o2) :: LedL w x dx y dy n1 n2 t1 t2 t3 t4 [] qs rest ∧ ∃ tm tl, ∀ p ∈ [(Str.ofString "least", Value.int (leastL codes) tl), (Str.ofString "mirror", Value.str (ofL (flatP qs)) tm), (Str.ofString "mended", Value.ref D2), (Str.ofString "told", Value.ref D1), (Str.ofString "fore", Value.ref x), (Str.ofString "size", Value.int (W.length : Nat) ts), (Str.ofString "word", Value.str (ofL W) tw)], m' p.1 = some p.2) := by
  have ct : ∀ rest', Ct w p loose mean mg mb 8 131 ((C, listOf cv.toArray nc) :: rest') [.ref C] (fun t => .int (leastL codes) t) := by
    intro rest'
    rcases hcv with h | h
    · exact least_ct5 w p loose mean mg mb rest' C cv nc codes hi h
    · exact least_ct w p loose mean mg mb rest' C cv nc codes hi h
  unfold PieG P0
  k_fill
  intro dp un gd A₀ base h₀ L u s Q R B F hm hb X N0 T hG hdp hun hQ
  have F1 := fr_norm _ F hm
  clear F hm
  show wpAny (model Challenge.rw_sn0024_01.row.prog w) _ (execs [_, _] _) _ _ _
  repeat' (first | (k_unfold; (try dsimp only)) | ((fail_if_success (with_reducible show wpAny _ _ (exec (Stmt.While _ _ _ _) _) _ _ _)); (fail_if_success (with_reducible show wpAny _ _ (exec (Stmt.For _ _ _ _ _) _) _ _ _)); (fail_if_success (with_reducible show wpAny _ _ (pyIter _) _ _ _)); (fail_if_success (with_reducible show wpAny _ _ (call (Value.type "str") _) _ _ _)); (fail_if_success (with_reducible show wpAny _ _ (getMethod (Value.ref _) _ _) _ _ _)); (fail_if_success (with_reducible show wpAny _ _ (call (Value.ref _) _) _ _ _)); first | walk1 | (dsimp only; walk1)) | (leave1; (try dsimp only)))
  rename Fr _ _ _ _ => F2
  rename News _ _ _ _ => N2
  refine str_hitB (ps := qs) F2 X N2 T hb hG (.tail _ (.tail _ (.tail _ (.tail _ (.head _))))) (.tail _ (.tail _ (.tail _ (.tail _ (.tail _ (.head _)))))) (fun p hp => .tail _ (.tail _ (.tail _ (.tail _ (.tail _ (.tail _ (hQs p hp))))))) okQ (by decide) ?_ ?_ ?_ ?_
  · dsimp only [Around.in1]
    omega
  · rfl
  · dsimp only [Around.in1]
    omega
  intro tm s2 F3 N3 G3 os3
  clear F2 N2
  repeat' (first | (k_unfold; (try dsimp only)) | ((fail_if_success (with_reducible show wpAny _ _ (exec (Stmt.While _ _ _ _) _) _ _ _)); (fail_if_success (with_reducible show wpAny _ _ (exec (Stmt.For _ _ _ _ _) _) _ _ _)); (fail_if_success (with_reducible show wpAny _ _ (pyIter _) _ _ _)); (fail_if_success (with_reducible show wpAny _ _ (call (Value.type "str") _) _ _ _)); (fail_if_success (with_reducible show wpAny _ _ (getMethod (Value.ref _) _ _) _ _ _)); (fail_if_success (with_reducible show wpAny _ _ (call (Value.ref _) _) _ _ _)); first | walk1 | (dsimp only; walk1)) | (leave1; (try dsimp only)))
  rename Fr _ _ _ _ => F2
  rename News _ _ _ _ => N2
  have hall : ∀ p ∈ (D1, o1) :: (D2, o2) :: LedL w x dx y dy n1 n2 t1 t2 t3 t4 [] qs rest, p ∈ (C, listOf cv.toArray nc) :: (D1, o1) :: (D2, o2) :: LedL w x dx y dy n1 n2 t1 t2 t3 t4 [] qs rest := fun p hp => .tail _ hp
  have N4 : News h₀ L _ ((C, listOf cv.toArray nc) :: (D1, o1) :: (D2, o2) :: LedL w x dx y dy n1 n2 t1 t2 t3 t4 [] qs rest) := kst_newsOf N2 (by
    intro p hp
    rcases List.mem_cons.mp hp with rfl | hp
    · exact .tail _ (.tail _ (.tail _ (.tail _ (.tail _ (.tail _ hC)))))
    · exact hp)
  clear N2
  refine ct _ dp un gd _ _ _ _ _ _ _ _ _ _ _ _ _ _ B F2 X N4 T rfl (by omega) (by omega) ?_
  intro tl h5 tk5 F5 N5
  clear F2 N4
  dsimp only
  repeat' (first | (k_unfold; (try dsimp only)) | ((fail_if_success (with_reducible show wpAny _ _ (exec (Stmt.While _ _ _ _) _) _ _ _)); (fail_if_success (with_reducible show wpAny _ _ (exec (Stmt.For _ _ _ _ _) _) _ _ _)); (fail_if_success (with_reducible show wpAny _ _ (pyIter _) _ _ _)); (fail_if_success (with_reducible show wpAny _ _ (call (Value.type "str") _) _ _ _)); (fail_if_success (with_reducible show wpAny _ _ (getMethod (Value.ref _) _ _) _ _ _)); (fail_if_success (with_reducible show wpAny _ _ (call (Value.ref _) _) _ _ _)); first | walk1 | (dsimp only; walk1)) | (leave1; (try dsimp only)))
  rename Fr _ _ _ _ => F6
  rename News _ _ _ _ => N6
  exact hQ _ _ _ _ ⟨rfl, rfl, _, _, by walk_at "K"⟩ F6 (kst_newsOf N6 hall) G3 os3
end Mine
end
section
open PySem PySem.W PyProof.Rows PySem.Calls PySem.Spec
namespace Mine
namespace law_check1_e
def St9 (w : World) (p : Program) (loose : List Str) (mean : ExcName → Option Value) (mg : Str → Option Value) (mb : Str → Option Value) (x : Addr) (dx : Addr) (y : Addr) (dy : Addr) (n1 : Nat) (n2 : Nat) (t1 : Tok) (t2 : Tok) (t3 : Tok) (t4 : Tok) (tw : Tok) (ts : Tok) (tm : Tok) (tl : Tok) (qs : List Pc) (rest : CbLed) (D1 : Addr) (D2 : Addr) (τ : List (Int × Tok)) (m1 : Nat) (o2 : Obj) (W : List Nat) (l : Int) (dp : Nat) (un : Nat) (gd : Option (List Code)) (A₀ : Around) (base : Heap) (h₀ : Heap) (L : Addr) (u : Str → Option Value) (s : Shared) (Q : Flow → Shared → Prop) (R : Result → Shared → Prop) : Prop :=
  (W.length ≤ 6) → (l ∈ τ.map (·.1)) → (∀ a ∈ τ.map (·.1), l ≤ a) → PieGB w p loose mean mg mb 20 ((lawB.drop 14).take 1) (fun _ => True)
      (fun u => ∀ p ∈ [(Str.ofString "least", Value.int l tl), (Str.ofString "mirror", Value.str (ofL W.reverse) tm), (Str.ofString "mended", Value.ref D2), (Str.ofString "told", Value.ref D1), (Str.ofString "fore", Value.ref x), (Str.ofString "size", Value.int (W.length : Nat) ts), (Str.ofString "word", Value.str (ofL W) tw)], u p.1 = some p.2) ((D1, listOf (ivals τ).toArray m1) :: (D2, o2) :: LedL w x dx y dy n1 n2 t1 t2 t3 t4 [] qs rest)
      (fun f m' news' => f = .next ∧ news' = [(D1, listOf (ivals τ).toArray m1), (D2, o2)] ∧ ∀ p ∈ [(Str.ofString "least", Value.int l tl), (Str.ofString "mirror", Value.str (ofL W.reverse) tm), (Str.ofString "mended", Value.ref D2), (Str.ofString "told", Value.ref D1), (Str.ofString "size", Value.int (W.length : Nat) ts), (Str.ofString "word", Value.str (ofL W) tw)], m' p.1 = some p.2) dp un gd A₀ base h₀ L u s Q R
abbrev Vt9 : Type := World × Program × (List Str) × (ExcName → Option Value) × (Str → Option Value) × (Str → Option Value) × Addr × Addr × Addr × Addr × Nat × Nat × Tok × Tok × Tok × Tok × Tok × Tok × Tok × Tok × (List Pc) × CbLed × Addr × Addr × (List (Int × Tok)) × Nat × Obj × (List Nat) × Int × Nat × Nat × (Option (List Code)) × Around × Heap × Heap × Addr × (Str → Option Value) × Shared × (Flow → Shared → Prop) × (Result → Shared → Prop)
theorem ne9 : Nonempty Vt9 := by
  obtain ⟨w0⟩ := neW
  exact ⟨w0, default, [], (fun _ => none), (fun _ => none), (fun _ => none), 0, 0, 0, 0, 0, 0, 0, 0, 0, 0, 0, 0, 0, 0, [], [], 0, 0, [], 0, { cls := .none, data := .plain }, [], 0, 0, 0, none, callerA, {}, {}, 0, (fun _ => none), {}, (fun _ _ => True), (fun _ _ => True)⟩
def Sp9 (t : Vt9) : Prop := St9 (t.1) (t.2.1) (t.2.2.1) (t.2.2.2.1) (t.2.2.2.2.1) (t.2.2.2.2.2.1) (t.2.2.2.2.2.2.1) (t.2.2.2.2.2.2.2.1) (t.2.2.2.2.2.2.2.2.1) (t.2.2.2.2.2.2.2.2.2.1) (t.2.2.2.2.2.2.2.2.2.2.1) (t.2.2.2.2.2.2.2.2.2.2.2.1) (t.2.2.2.2.2.2.2.2.2.2.2.2.1) (t.2.2.2.2.2.2.2.2.2.2.2.2.2.1) (t.2.2.2.2.2.2.2.2.2.2.2.2.2.2.1) (t.2.2.2.2.2.2.2.2.2.2.2.2.2.2.2.1) (t.2.2.2.2.2.2.2.2.2.2.2.2.2.2.2.2.1) (t.2.2.2.2.2.2.2.2.2.2.2.2.2.2.2.2.2.1) (t.2.2.2.2.2.2.2.2.2.2.2.2.2.2.2.2.2.2.1) (t.2.2.2.2.2.2.2.2.2.2.2.2.2.2.2.2.2.2.2.1) (t.2.2.2.2.2.2.2.2.2.2.2.2.2.2.2.2.2.2.2.2.1) (t.2.2.2.2.2.2.2.2.2.2.2.2.2.2.2.2.2.2.2.2.2.1) (t.2.2.2.2.2.2.2.2.2.2.2.2.2.2.2.2.2.2.2.2.2.2.1) (t.2.2.2.2.2.2.2.2.2.2.2.2.2.2.2.2.2.2.2.2.2.2.2.1) (t.2.2.2.2.2.2.2.2.2.2.2.2.2.2.2.2.2.2.2.2.2.2.2.2.1) (t.2.2.2.2.2.2.2.2.2.2.2.2.2.2.2.2.2.2.2.2.2.2.2.2.2.1) (t.2.2.2.2.2.2.2.2.2.2.2.2.2.2.2.2.2.2.2.2.2.2.2.2.2.2.1) (t.2.2.2.2.2.2.2.2.2.2.2.2.2.2.2.2.2.2.2.2.2.2.2.2.2.2.2.1) (t.2.2.2.2.2.2.2.2.2.2.2.2.2.2.2.2.2.2.2.2.2.2.2.2.2.2.2.2.1) (t.2.2.2.2.2.2.2.2.2.2.2.2.2.2.2.2.2.2.2.2.2.2.2.2.2.2.2.2.2.1) (t.2.2.2.2.2.2.2.2.2.2.2.2.2.2.2.2.2.2.2.2.2.2.2.2.2.2.2.2.2.2.1) (t.2.2.2.2.2.2.2.2.2.2.2.2.2.2.2.2.2.2.2.2.2.2.2.2.2.2.2.2.2.2.2.1) (t.2.2.2.2.2.2.2.2.2.2.2.2.2.2.2.2.2.2.2.2.2.2.2.2.2.2.2.2.2.2.2.2.1) (t.2.2.2.2.2.2.2.2.2.2.2.2.2.2.2.2.2.2.2.2.2.2.2.2.2.2.2.2.2.2.2.2.2.1) (t.2.2.2.2.2.2.2.2.2.2.2.2.2.2.2.2.2.2.2.2.2.2.2.2.2.2.2.2.2.2.2.2.2.2.1) (t.2.2.2.2.2.2.2.2.2.2.2.2.2.2.2.2.2.2.2.2.2.2.2.2.2.2.2.2.2.2.2.2.2.2.2.1) (t.2.2.2.2.2.2.2.2.2.2.2.2.2.2.2.2.2.2.2.2.2.2.2.2.2.2.2.2.2.2.2.2.2.2.2.2.1) (t.2.2.2.2.2.2.2.2.2.2.2.2.2.2.2.2.2.2.2.2.2.2.2.2.2.2.2.2.2.2.2.2.2.2.2.2.2.1) (t.2.2.2.2.2.2.2.2.2.2.2.2.2.2.2.2.2.2.2.2.2.2.2.2.2.2.2.2.2.2.2.2.2.2.2.2.2.2.1) (t.2.2.2.2.2.2.2.2.2.2.2.2.2.2.2.2.2.2.2.2.2.2.2.2.2.2.2.2.2.2.2.2.2.2.2.2.2.2.2)
noncomputable def c9 : Vt9 := @Classical.epsilon Vt9 ne9 fun t => ¬ Sp9 t
@[irreducible] noncomputable def w : World := c9.1
@[irreducible] noncomputable def p : Program := c9.2.1
@[irreducible] noncomputable def loose : List Str := c9.2.2.1
@[irreducible] noncomputable def mean : ExcName → Option Value := c9.2.2.2.1
@[irreducible] noncomputable def mg : Str → Option Value := c9.2.2.2.2.1
@[irreducible] noncomputable def mb : Str → Option Value := c9.2.2.2.2.2.1
@[irreducible] noncomputable def x : Addr := c9.2.2.2.2.2.2.1
@[irreducible] noncomputable def dx : Addr := c9.2.2.2.2.2.2.2.1
@[irreducible] noncomputable def y : Addr := c9.2.2.2.2.2.2.2.2.1
@[irreducible] noncomputable def dy : Addr := c9.2.2.2.2.2.2.2.2.2.1
@[irreducible] noncomputable def n1 : Nat := c9.2.2.2.2.2.2.2.2.2.2.1
@[irreducible] noncomputable def n2 : Nat := c9.2.2.2.2.2.2.2.2.2.2.2.1
@[irreducible] noncomputable def t1 : Tok := c9.2.2.2.2.2.2.2.2.2.2.2.2.1
@[irreducible] noncomputable def t2 : Tok := c9.2.2.2.2.2.2.2.2.2.2.2.2.2.1
@[irreducible] noncomputable def t3 : Tok := c9.2.2.2.2.2.2.2.2.2.2.2.2.2.2.1
@[irreducible] noncomputable def t4 : Tok := c9.2.2.2.2.2.2.2.2.2.2.2.2.2.2.2.1
@[irreducible] noncomputable def tw : Tok := c9.2.2.2.2.2.2.2.2.2.2.2.2.2.2.2.2.1
@[irreducible] noncomputable def ts : Tok := c9.2.2.2.2.2.2.2.2.2.2.2.2.2.2.2.2.2.1
@[irreducible] noncomputable def tm : Tok := c9.2.2.2.2.2.2.2.2.2.2.2.2.2.2.2.2.2.2.1
@[irreducible] noncomputable def tl : Tok := c9.2.2.2.2.2.2.2.2.2.2.2.2.2.2.2.2.2.2.2.1
@[irreducible] noncomputable def qs : List Pc := c9.2.2.2.2.2.2.2.2.2.2.2.2.2.2.2.2.2.2.2.2.1
@[irreducible] noncomputable def rest : CbLed := c9.2.2.2.2.2.2.2.2.2.2.2.2.2.2.2.2.2.2.2.2.2.1
@[irreducible] noncomputable def D1 : Addr := c9.2.2.2.2.2.2.2.2.2.2.2.2.2.2.2.2.2.2.2.2.2.2.1
@[irreducible] noncomputable def D2 : Addr := c9.2.2.2.2.2.2.2.2.2.2.2.2.2.2.2.2.2.2.2.2.2.2.2.1
@[irreducible] noncomputable def τ : List (Int × Tok) := c9.2.2.2.2.2.2.2.2.2.2.2.2.2.2.2.2.2.2.2.2.2.2.2.2.1
@[irreducible] noncomputable def m1 : Nat := c9.2.2.2.2.2.2.2.2.2.2.2.2.2.2.2.2.2.2.2.2.2.2.2.2.2.1
@[irreducible] noncomputable def o2 : Obj := c9.2.2.2.2.2.2.2.2.2.2.2.2.2.2.2.2.2.2.2.2.2.2.2.2.2.2.1
@[irreducible] noncomputable def W : List Nat := c9.2.2.2.2.2.2.2.2.2.2.2.2.2.2.2.2.2.2.2.2.2.2.2.2.2.2.2.1
@[irreducible] noncomputable def l : Int := c9.2.2.2.2.2.2.2.2.2.2.2.2.2.2.2.2.2.2.2.2.2.2.2.2.2.2.2.2.1
@[irreducible] noncomputable def dp : Nat := c9.2.2.2.2.2.2.2.2.2.2.2.2.2.2.2.2.2.2.2.2.2.2.2.2.2.2.2.2.2.1
@[irreducible] noncomputable def un : Nat := c9.2.2.2.2.2.2.2.2.2.2.2.2.2.2.2.2.2.2.2.2.2.2.2.2.2.2.2.2.2.2.1
@[irreducible] noncomputable def gd : Option (List Code) := c9.2.2.2.2.2.2.2.2.2.2.2.2.2.2.2.2.2.2.2.2.2.2.2.2.2.2.2.2.2.2.2.1
@[irreducible] noncomputable def A₀ : Around := c9.2.2.2.2.2.2.2.2.2.2.2.2.2.2.2.2.2.2.2.2.2.2.2.2.2.2.2.2.2.2.2.2.1
@[irreducible] noncomputable def base : Heap := c9.2.2.2.2.2.2.2.2.2.2.2.2.2.2.2.2.2.2.2.2.2.2.2.2.2.2.2.2.2.2.2.2.2.1
@[irreducible] noncomputable def h₀ : Heap := c9.2.2.2.2.2.2.2.2.2.2.2.2.2.2.2.2.2.2.2.2.2.2.2.2.2.2.2.2.2.2.2.2.2.2.1
@[irreducible] noncomputable def L : Addr := c9.2.2.2.2.2.2.2.2.2.2.2.2.2.2.2.2.2.2.2.2.2.2.2.2.2.2.2.2.2.2.2.2.2.2.2.1
@[irreducible] noncomputable def u : Str → Option Value := c9.2.2.2.2.2.2.2.2.2.2.2.2.2.2.2.2.2.2.2.2.2.2.2.2.2.2.2.2.2.2.2.2.2.2.2.2.1
@[irreducible] noncomputable def s : Shared := c9.2.2.2.2.2.2.2.2.2.2.2.2.2.2.2.2.2.2.2.2.2.2.2.2.2.2.2.2.2.2.2.2.2.2.2.2.2.1
@[irreducible] noncomputable def Q : Flow → Shared → Prop := c9.2.2.2.2.2.2.2.2.2.2.2.2.2.2.2.2.2.2.2.2.2.2.2.2.2.2.2.2.2.2.2.2.2.2.2.2.2.2.1
@[irreducible] noncomputable def R : Result → Shared → Prop := c9.2.2.2.2.2.2.2.2.2.2.2.2.2.2.2.2.2.2.2.2.2.2.2.2.2.2.2.2.2.2.2.2.2.2.2.2.2.2.2
set_option maxRecDepth 100000 in
set_option maxHeartbeats 8000000 in
theorem core9 : St9 w p loose mean mg mb x dx y dy n1 n2 t1 t2 t3 t4 tw ts tm tl qs rest D1 D2 τ m1 o2 W l dp un gd A₀ base h₀ L u s Q R := by
  unfold St9 PieGB P0
  k_fill
  intro hW6 hlm hll B F hm hb X N0 T hG hdp hun hQ
  have F1 := fr_norm _ F hm
  clear F hm
  have e1 : Str.length (ofL W) = W.length := ofL_len W
  show wpAny (model Challenge.rw_sn0024_01.row.prog w) _ (execs [_] _) _ _ _
  repeat' (first | (k_unfold; (try dsimp only)) | ((fail_if_success (with_reducible show wpAny _ _ (exec (Stmt.While _ _ _ _) _) _ _ _)); (fail_if_success (with_reducible show wpAny _ _ (exec (Stmt.For _ _ _ _ _) _) _ _ _)); (fail_if_success (with_reducible show wpAny _ _ (pyIter _) _ _ _)); (fail_if_success (with_reducible show wpAny _ _ (call (Value.type "str") _) _ _ _)); (fail_if_success (with_reducible show wpAny _ _ (getMethod (Value.ref _) _ _) _ _ _)); (fail_if_success (with_reducible show wpAny _ _ (call (Value.ref _) _) _ _ _)); first | walk1 | (dsimp only; walk1)) | (leave1; (try dsimp only)))
  · rename (_ != _) = true => hc
    rw [rev_ofL] at hc
    simp at hc
  rename Fr _ _ _ _ => F2
  rename News _ _ _ _ => N2
  dsimp only
  refine acc_meth F2 X N2 (.tail _ (.tail _ (.head _))) (.tail _ (.tail _ (.tail _ (.head _)))) (by k_is) (by k_is) (by kernel_rfl) ?_
  dsimp only
  refine cw0 F2 X rfl rfl ?_
  have N3 : News h₀ L _ ((x, accObj dx [] n1) :: (dx, accDict w t1 t2) :: ((D1, listOf (ivals τ).toArray m1) :: (D2, o2) :: [])) := kst_newsOf N2 (by walk_at "S")
  refine pop0_ct w p loose mean mg mb _ x dx n1 t1 t2 dp un gd _ _ _ _ _ _ _ _ _ _ _ _ _ _ B F2 X N3 T rfl (by omega) (by omega) ?_
  rintro v5 h5 tk5 news5 ⟨T5, ta, tb, rfl, rfl⟩ F5 N5
  clear F2 N2 N3
  repeat' (first | (k_unfold; (try dsimp only)) | ((fail_if_success (with_reducible show wpAny _ _ (exec (Stmt.While _ _ _ _) _) _ _ _)); (fail_if_success (with_reducible show wpAny _ _ (exec (Stmt.For _ _ _ _ _) _) _ _ _)); (fail_if_success (with_reducible show wpAny _ _ (pyIter _) _ _ _)); (fail_if_success (with_reducible show wpAny _ _ (call (Value.type "str") _) _ _ _)); (fail_if_success (with_reducible show wpAny _ _ (getMethod (Value.ref _) _ _) _ _ _)); (fail_if_success (with_reducible show wpAny _ _ (call (Value.ref _) _) _ _ _)); first | walk1 | (dsimp only; walk1)) | (leave1; (try dsimp only)))
  rename Fr _ _ _ _ => F6
  rename News _ _ _ _ => N6

  refine min_list_N rfl F6 N6 (PySem.IsL.isList (n := m1) (N6 _ (.tail _ (.tail _ (.tail _ (.tail _ (.head _)))))).1) (ints_iv τ) (List.length_pos_of_mem hlm) ?_
  intro h7 M tM tk7 F7 N7 hM1 hM2
  obtain rfl : M = l := Int.le_antisymm (hM2 _ hlm) (hll _ hM1)
  clear F6 N6 hM1 hM2
  repeat' (first | (k_unfold; (try dsimp only)) | ((fail_if_success (with_reducible show wpAny _ _ (exec (Stmt.While _ _ _ _) _) _ _ _)); (fail_if_success (with_reducible show wpAny _ _ (exec (Stmt.For _ _ _ _ _) _) _ _ _)); (fail_if_success (with_reducible show wpAny _ _ (pyIter _) _ _ _)); (fail_if_success (with_reducible show wpAny _ _ (call (Value.type "str") _) _ _ _)); (fail_if_success (with_reducible show wpAny _ _ (getMethod (Value.ref _) _ _) _ _ _)); (fail_if_success (with_reducible show wpAny _ _ (call (Value.ref _) _) _ _ _)); first | walk1 | (dsimp only; walk1)) | (leave1; (try dsimp only)))
  · rename l ≠ l => hc
    exact absurd rfl hc
  · refine hQ _ _ _ _ ⟨rfl, rfl, by walk_at "K"⟩ F7 (kst_newsOf N7 ?_) hG rfl
    intro p hp
    simp only [List.mem_cons, List.not_mem_nil, or_false] at hp
    rcases hp with rfl | rfl
    · exact .tail _ (.tail _ (.tail _ (.tail _ (.head _))))
    · exact .tail _ (.tail _ (.tail _ (.tail _ (.tail _ (.head _)))))
set_option maxHeartbeats 4000000 in
theorem all9 (q9 : Vt9) : Sp9 q9 := by
  refine @eps_all Vt9 ne9 Sp9 ?_ q9
  have h := core9
  unfold w p loose mean mg mb x dx y dy n1 n2 t1 t2 t3 t4 tw ts tm tl qs rest D1 D2 τ m1 o2 W l dp un gd A₀ base h₀ L u s Q R at h
  exact h
end law_check1_e
set_option maxHeartbeats 4000000 in
theorem law_check1 (w : World) (p : Program) (loose : List Str) (mean : ExcName → Option Value) (mg mb : Str → Option Value) (x dx y dy : Addr) (n1 n2 : Nat) (t1 t2 t3 t4 tw ts tm tl : Tok) (qs : List Pc) (rest : CbLed) (D1 D2 : Addr) (τ : List (Int × Tok)) (m1 : Nat) (o2 : Obj) (W : List Nat) (l : Int) (hW6 : W.length ≤ 6) (hlm : l ∈ τ.map (·.1)) (hll : ∀ a ∈ τ.map (·.1), l ≤ a) : PieG w p loose mean mg mb 20 ((lawB.drop 14).take 1) (fun _ => True)
      (fun u => ∀ p ∈ [(Str.ofString "least", Value.int l tl), (Str.ofString "mirror", Value.str (ofL W.reverse) tm), (Str.ofString "mended", Value.ref D2), (Str.ofString "told", Value.ref D1), (Str.ofString "fore", Value.ref x), (Str.ofString "size", Value.int (W.length : Nat) ts), (Str.ofString "word", Value.str (ofL W) tw)], u p.1 = some p.2) ((D1, listOf (ivals τ).toArray m1) :: (D2, o2) :: LedL w x dx y dy n1 n2 t1 t2 t3 t4 [] qs rest)
      (fun f m' news' => f = .next ∧ news' = [(D1, listOf (ivals τ).toArray m1), (D2, o2)] ∧ ∀ p ∈ [(Str.ofString "least", Value.int l tl), (Str.ofString "mirror", Value.str (ofL W.reverse) tm), (Str.ofString "mended", Value.ref D2), (Str.ofString "told", Value.ref D1), (Str.ofString "size", Value.int (W.length : Nat) ts), (Str.ofString "word", Value.str (ofL W) tw)], m' p.1 = some p.2) := by
  intro dp un gd A₀ base h₀ L u s Q R
  have h := law_check1_e.all9 (w, p, loose, mean, mg, mb, x, dx, y, dy, n1, n2, t1, t2, t3, t4, tw, ts, tm, tl, qs, rest, D1, D2, τ, m1, o2, W, l, dp, un, gd, A₀, base, h₀, L, u, s, Q, R)
  dsimp only [law_check1_e.Sp9, law_check1_e.St9] at h
  exact h hW6 hlm hll
end Mine
end
section
open PySem PySem.W PyProof.Rows PySem.Calls PySem.Spec
namespace Mine
set_option maxRecDepth 100000 in
set_option maxHeartbeats 8000000 in
/-- two texts alike: any bound -/
theorem lev_eq0 (w : World) (p : Program) (loose : List Str) (mean : ExcName → Option Value) (mg mb : Str → Option Value) (news : CbLed) (x : List Nat) (t : CbTok) (t' : CbTok) (n : Int) (tn : CbTok) (hx : x.length ≤ 40) : Ct w p loose mean mg mb 10 35 news [.str (ofL x) t, .str (ofL x) t', .int n tn] (fun t => .int 0 t) := by
  unfold Ct Ret P0
  k_fill
  intro dp un gd cn cs a0 ccd cl outr A₀ base h₀ L m s Q E hB hF hX hN hT hcs hdp hun hret
  have e1 : Str.length (ofL x) ≤ 40 := by rw [ofL_len]; exact hx
  refine wpAny_call ?_
  k_dflt cell_enter
  rename Fr _ _ _ _ => F0
  have F1 : Fr _ _ _ (kstB (fun _ => none) [(Str.ofString "max_cost", Value.int n tn), (Str.ofString "b", Value.str (ofL x) t'), (Str.ofString "a", Value.str (ofL x) t)]) := fr_open F0
  clear F0
  repeat' (first | (k_unfold; (try dsimp only)) | ((fail_if_success (with_reducible show wpAny _ _ (exec (Stmt.While _ _ _ _) _) _ _ _)); (fail_if_success (with_reducible show wpAny _ _ (exec (Stmt.For _ _ _ _ _) _) _ _ _)); (fail_if_success (with_reducible show wpAny _ _ (pyIter _) _ _ _)); first | walk1 | (dsimp only; walk1)) | (leave1; (try dsimp only)))
  · refine cb_retI (x := 0) hret rfl (by k_asm) (by k_asm)
  · rename (ofL _ == ofL _) = false => hxy
    rw [ofL_beq] at hxy
    simp at hxy
end Mine
end
section
open PySem PySem.W PyProof.Rows PySem.Calls PySem.Spec
namespace Mine
def intEq (l : Int) : Value → Bool
  | .int a _ => a == l
  | _ => false
theorem ivals_get {τ : List (Int × Tok)} {j : Nat} (h : j < (ivals τ).toArray.size) : ∃ a t, τ[j]? = some (a, t) ∧ (ivals τ).toArray[j] = .int a t := by
  have h' : j < τ.length := by simpa [ivals] using h
  exact ⟨τ[j].1, τ[j].2, List.getElem?_eq_getElem h', by simp [ivals]⟩
theorem index_at {prog : Program} {w : World} {A : Around} {E : Value → Shared → Prop} {s : Shared} {h₀ : Heap} {L D : Addr} {news : CbLed} {n j : Nat} {τ : List (Int × Tok)} {l : Int} {u : Tok} {Q : Value → Shared → Prop} (N : News h₀ L s.heap news) (hm : (D, listOf (ivals τ).toArray n) ∈ news) (hj : j ≤ 900) (hτ : ∃ t, τ[j]? = some (l, t)) (hlt : ∀ m, m < j → ∀ a t, τ[m]? = some (a, t) → a ≠ l) (h : Q (.int (j : Int) s.toks) { s with toks := s.toks + 1 }) :
    wpAny (model prog w) A (call (.builtin "list.index") [.ref D, .int l u]) Q E s := by
  have hl : IsL s.heap D (ivals τ).toArray n := (N _ hm).1
  obtain ⟨t, ht⟩ := hτ
  have hsz : j < (ivals τ).toArray.size := by
    have := (List.getElem?_eq_some_iff.mp ht).1
    simpa [ivals] using this
  refine call_meets F.slot_list_index (PySem.Heap.IsList.typeIs (PySem.IsL.isList (n := n) hl)) F.entry_list_index (F.args_list_index_2 _ _) (MeetsSeq.list_index D (ivals τ).toArray n _ (intEq l) ?_ j hsz (by omega) ?_ ?_) ⟨hl, h⟩
  · intro y hy
    simp only [ivals, List.mem_toArray, List.mem_map] at hy
    obtain ⟨q, _, rfl⟩ := hy
    exact MeetsSeq.EqGives.int _ _ _ _
  · obtain ⟨a, t', e1, e2⟩ := ivals_get hsz
    rw [ht] at e1
    cases e1
    rw [e2]
    simp [intEq]
  · intro m hm' hmj
    obtain ⟨a, t', e1, e2⟩ := ivals_get hm'
    rw [e2]
    simpa [intEq] using hlt m hmj a t' e1
set_option maxRecDepth 100000 in
set_option maxHeartbeats 8000000 in
/-- line 174 -/
theorem law_half (w : World) (p : Program) (loose : List Str) (mean : ExcName → Option Value) (mg mb : Str → Option Value) (tw ts tm tl : Tok) (D1 D2 : Addr) (τ : List (Int × Tok)) (μ : List (List Nat × Tok)) (m1 m2 : Nat) (W : List Nat) (l : Int) (j : Nat) (hj : j ≤ 900) (H : List Nat) (th : Tok) (hτ : ∃ t, τ[j]? = some (l, t)) (hμ : μ[j]? = some (H, th)) (hlt : ∀ m, m < j → ∀ a t, τ[m]? = some (a, t) → a ≠ l) :
    PieG w p loose mean mg mb 20 ((lawB.drop 15).take 1) (fun _ => True)
      (fun u => ∀ p ∈ [(Str.ofString "least", Value.int l tl), (Str.ofString "mirror", Value.str (ofL W.reverse) tm), (Str.ofString "mended", Value.ref D2), (Str.ofString "told", Value.ref D1), (Str.ofString "size", Value.int (W.length : Nat) ts), (Str.ofString "word", Value.str (ofL W) tw)], u p.1 = some p.2) ((D1, listOf (ivals τ).toArray m1) :: (D2, listOf (valsL μ).toArray m2) :: [])
      (fun f m' news' => f = .next ∧ news' = [] ∧ ∀ p ∈ [(Str.ofString "halfway", Value.str (ofL H) th), (Str.ofString "least", Value.int l tl), (Str.ofString "mirror", Value.str (ofL W.reverse) tm), (Str.ofString "size", Value.int (W.length : Nat) ts), (Str.ofString "word", Value.str (ofL W) tw)], m' p.1 = some p.2) := by
  unfold PieG P0
  k_fill
  intro dp un gd A₀ base h₀ L u s Q R B F hm hb X N0 T hG hdp hun hQ
  have F1 := fr_norm _ F hm
  clear F hm
  show wpAny (model Challenge.rw_sn0024_01.row.prog w) _ (execs [_] _) _ _ _
  repeat' (first | (k_unfold; (try dsimp only)) | ((fail_if_success (with_reducible show wpAny _ _ (exec (Stmt.While _ _ _ _) _) _ _ _)); (fail_if_success (with_reducible show wpAny _ _ (exec (Stmt.For _ _ _ _ _) _) _ _ _)); (fail_if_success (with_reducible show wpAny _ _ (pyIter _) _ _ _)); (fail_if_success (with_reducible show wpAny _ _ (getMethod (Value.ref _) _ _) _ _ _)); (fail_if_success (with_reducible show wpAny _ _ (call (Value.ref _) _) _ _ _)); (fail_if_success (with_reducible show wpAny _ _ (call (Value.builtin "list.index") _) _ _ _)); first | walk1 | (dsimp only; walk1)) | (leave1; (try dsimp only)))
  refine listMethod_K N0 (.head _) F.slot_list_index F.type_list_index ?_
  repeat' (first | (k_unfold; (try dsimp only)) | ((fail_if_success (with_reducible show wpAny _ _ (exec (Stmt.While _ _ _ _) _) _ _ _)); (fail_if_success (with_reducible show wpAny _ _ (exec (Stmt.For _ _ _ _ _) _) _ _ _)); (fail_if_success (with_reducible show wpAny _ _ (pyIter _) _ _ _)); (fail_if_success (with_reducible show wpAny _ _ (getMethod (Value.ref _) _ _) _ _ _)); (fail_if_success (with_reducible show wpAny _ _ (call (Value.ref _) _) _ _ _)); (fail_if_success (with_reducible show wpAny _ _ (call (Value.builtin "list.index") _) _ _ _)); first | walk1 | (dsimp only; walk1)) | (leave1; (try dsimp only)))
  refine index_at N0 (.head _) hj hτ hlt ?_
  refine item_nat j N0 (.tail _ (.head _)) rfl (by omega) (by unfold valsL; rw [List.getElem?_map, hμ]; rfl) ?_
  repeat' (first | (k_unfold; (try dsimp only)) | ((fail_if_success (with_reducible show wpAny _ _ (exec (Stmt.While _ _ _ _) _) _ _ _)); (fail_if_success (with_reducible show wpAny _ _ (exec (Stmt.For _ _ _ _ _) _) _ _ _)); (fail_if_success (with_reducible show wpAny _ _ (pyIter _) _ _ _)); (fail_if_success (with_reducible show wpAny _ _ (getMethod (Value.ref _) _ _) _ _ _)); (fail_if_success (with_reducible show wpAny _ _ (call (Value.ref _) _) _ _ _)); first | walk1 | (dsimp only; walk1)) | (leave1; (try dsimp only)))
  rename Fr _ _ _ _ => F6
  exact hQ _ _ _ _ ⟨rfl, rfl, by walk_at "K"⟩ F6 (fun p hp => nomatch hp) hG rfl
end Mine
end
section
open PySem PySem.W PyProof.Rows PySem.Calls PySem.Spec
namespace Mine
namespace law_three_e
def St9 (w : World) (p : Program) (loose : List Str) (mean : ExcName → Option Value) (mg : Str → Option Value) (mb : Str → Option Value) (th : Tok) (tw : Tok) (ts : Tok) (tm : Tok) (tl : Tok) (W : List Nat) (H : List Nat) (l : Int) (dp : Nat) (un : Nat) (gd : Option (List Code)) (A₀ : Around) (base : Heap) (h₀ : Heap) (L : Addr) (u : Str → Option Value) (s : Shared) (Q : Flow → Shared → Prop) (R : Result → Shared → Prop) : Prop :=
  (0 ≤ l) → (l ≤ 400) → (W.length ≤ 6) → (H.length ≤ 40) → (levL W W.reverse (2 * l) = 2 * l) → (levL W H l = l) → (levL H W.reverse l = l) → PieGB w p loose mean mg mb 20 ((lawB.drop 16).take 1) (fun _ => True)
      (fun u => ∀ p ∈ [(Str.ofString "halfway", Value.str (ofL H) th), (Str.ofString "least", Value.int l tl), (Str.ofString "mirror", Value.str (ofL W.reverse) tm), (Str.ofString "size", Value.int (W.length : Nat) ts), (Str.ofString "word", Value.str (ofL W) tw)], u p.1 = some p.2) []
      (fun f m' news' => f = .next ∧ news' = [] ∧ ∀ p ∈ [(Str.ofString "least", Value.int l tl), (Str.ofString "mirror", Value.str (ofL W.reverse) tm), (Str.ofString "size", Value.int (W.length : Nat) ts), (Str.ofString "word", Value.str (ofL W) tw)], m' p.1 = some p.2) dp un gd A₀ base h₀ L u s Q R
abbrev Vt9 : Type := World × Program × (List Str) × (ExcName → Option Value) × (Str → Option Value) × (Str → Option Value) × Tok × Tok × Tok × Tok × Tok × (List Nat) × (List Nat) × Int × Nat × Nat × (Option (List Code)) × Around × Heap × Heap × Addr × (Str → Option Value) × Shared × (Flow → Shared → Prop) × (Result → Shared → Prop)
theorem ne9 : Nonempty Vt9 := by
  obtain ⟨w0⟩ := neW
  exact ⟨w0, default, [], (fun _ => none), (fun _ => none), (fun _ => none), 0, 0, 0, 0, 0, [], [], 0, 0, 0, none, callerA, {}, {}, 0, (fun _ => none), {}, (fun _ _ => True), (fun _ _ => True)⟩
def Sp9 (t : Vt9) : Prop := St9 (t.1) (t.2.1) (t.2.2.1) (t.2.2.2.1) (t.2.2.2.2.1) (t.2.2.2.2.2.1) (t.2.2.2.2.2.2.1) (t.2.2.2.2.2.2.2.1) (t.2.2.2.2.2.2.2.2.1) (t.2.2.2.2.2.2.2.2.2.1) (t.2.2.2.2.2.2.2.2.2.2.1) (t.2.2.2.2.2.2.2.2.2.2.2.1) (t.2.2.2.2.2.2.2.2.2.2.2.2.1) (t.2.2.2.2.2.2.2.2.2.2.2.2.2.1) (t.2.2.2.2.2.2.2.2.2.2.2.2.2.2.1) (t.2.2.2.2.2.2.2.2.2.2.2.2.2.2.2.1) (t.2.2.2.2.2.2.2.2.2.2.2.2.2.2.2.2.1) (t.2.2.2.2.2.2.2.2.2.2.2.2.2.2.2.2.2.1) (t.2.2.2.2.2.2.2.2.2.2.2.2.2.2.2.2.2.2.1) (t.2.2.2.2.2.2.2.2.2.2.2.2.2.2.2.2.2.2.2.1) (t.2.2.2.2.2.2.2.2.2.2.2.2.2.2.2.2.2.2.2.2.1) (t.2.2.2.2.2.2.2.2.2.2.2.2.2.2.2.2.2.2.2.2.2.1) (t.2.2.2.2.2.2.2.2.2.2.2.2.2.2.2.2.2.2.2.2.2.2.1) (t.2.2.2.2.2.2.2.2.2.2.2.2.2.2.2.2.2.2.2.2.2.2.2.1) (t.2.2.2.2.2.2.2.2.2.2.2.2.2.2.2.2.2.2.2.2.2.2.2.2)
noncomputable def c9 : Vt9 := @Classical.epsilon Vt9 ne9 fun t => ¬ Sp9 t
@[irreducible] noncomputable def w : World := c9.1
@[irreducible] noncomputable def p : Program := c9.2.1
@[irreducible] noncomputable def loose : List Str := c9.2.2.1
@[irreducible] noncomputable def mean : ExcName → Option Value := c9.2.2.2.1
@[irreducible] noncomputable def mg : Str → Option Value := c9.2.2.2.2.1
@[irreducible] noncomputable def mb : Str → Option Value := c9.2.2.2.2.2.1
@[irreducible] noncomputable def th : Tok := c9.2.2.2.2.2.2.1
@[irreducible] noncomputable def tw : Tok := c9.2.2.2.2.2.2.2.1
@[irreducible] noncomputable def ts : Tok := c9.2.2.2.2.2.2.2.2.1
@[irreducible] noncomputable def tm : Tok := c9.2.2.2.2.2.2.2.2.2.1
@[irreducible] noncomputable def tl : Tok := c9.2.2.2.2.2.2.2.2.2.2.1
@[irreducible] noncomputable def W : List Nat := c9.2.2.2.2.2.2.2.2.2.2.2.1
@[irreducible] noncomputable def H : List Nat := c9.2.2.2.2.2.2.2.2.2.2.2.2.1
@[irreducible] noncomputable def l : Int := c9.2.2.2.2.2.2.2.2.2.2.2.2.2.1
@[irreducible] noncomputable def dp : Nat := c9.2.2.2.2.2.2.2.2.2.2.2.2.2.2.1
@[irreducible] noncomputable def un : Nat := c9.2.2.2.2.2.2.2.2.2.2.2.2.2.2.2.1
@[irreducible] noncomputable def gd : Option (List Code) := c9.2.2.2.2.2.2.2.2.2.2.2.2.2.2.2.2.1
@[irreducible] noncomputable def A₀ : Around := c9.2.2.2.2.2.2.2.2.2.2.2.2.2.2.2.2.2.1
@[irreducible] noncomputable def base : Heap := c9.2.2.2.2.2.2.2.2.2.2.2.2.2.2.2.2.2.2.1
@[irreducible] noncomputable def h₀ : Heap := c9.2.2.2.2.2.2.2.2.2.2.2.2.2.2.2.2.2.2.2.1
@[irreducible] noncomputable def L : Addr := c9.2.2.2.2.2.2.2.2.2.2.2.2.2.2.2.2.2.2.2.2.1
@[irreducible] noncomputable def u : Str → Option Value := c9.2.2.2.2.2.2.2.2.2.2.2.2.2.2.2.2.2.2.2.2.2.1
@[irreducible] noncomputable def s : Shared := c9.2.2.2.2.2.2.2.2.2.2.2.2.2.2.2.2.2.2.2.2.2.2.1
@[irreducible] noncomputable def Q : Flow → Shared → Prop := c9.2.2.2.2.2.2.2.2.2.2.2.2.2.2.2.2.2.2.2.2.2.2.2.1
@[irreducible] noncomputable def R : Result → Shared → Prop := c9.2.2.2.2.2.2.2.2.2.2.2.2.2.2.2.2.2.2.2.2.2.2.2.2
set_option maxRecDepth 100000 in
set_option maxHeartbeats 8000000 in
theorem core9 : St9 w p loose mean mg mb th tw ts tm tl W H l dp un gd A₀ base h₀ L u s Q R := by
  unfold St9 PieGB P0
  k_fill
  intro hl0 hl1 hW6 hH f1 f2 f3 B F hm hb X N0 T hG hdp hun hQ
  have F1 := fr_norm _ F hm
  clear F hm
  show wpAny (model Challenge.rw_sn0024_01.row.prog w) _ (execs [_] _) _ _ _
  repeat' (first | (k_unfold; (try dsimp only)) | ((fail_if_success (with_reducible show wpAny _ _ (exec (Stmt.While _ _ _ _) _) _ _ _)); (fail_if_success (with_reducible show wpAny _ _ (exec (Stmt.For _ _ _ _ _) _) _ _ _)); (fail_if_success (with_reducible show wpAny _ _ (pyIter _) _ _ _)); (fail_if_success (with_reducible show wpAny _ _ (getMethod (Value.ref _) _ _) _ _ _)); (fail_if_success (with_reducible show wpAny _ _ (call (Value.ref _) _) _ _ _)); (fail_if_success (with_reducible show wpAny _ _ (call (Value.builtin "list.append") _) _ _ _)); first | walk1 | (dsimp only; walk1)) | (leave1; (try dsimp only)))
  walk1
  repeat' (first | (k_unfold; (try dsimp only)) | ((fail_if_success (with_reducible show wpAny _ _ (exec (Stmt.While _ _ _ _) _) _ _ _)); (fail_if_success (with_reducible show wpAny _ _ (exec (Stmt.For _ _ _ _ _) _) _ _ _)); (fail_if_success (with_reducible show wpAny _ _ (pyIter _) _ _ _)); (fail_if_success (with_reducible show wpAny _ _ (getMethod (Value.ref _) _ _) _ _ _)); (fail_if_success (with_reducible show wpAny _ _ (call (Value.ref _) _) _ _ _)); (fail_if_success (with_reducible show wpAny _ _ (call (Value.builtin "list.append") _) _ _ _)); first | walk1 | (dsimp only; walk1)) | (leave1; (try dsimp only)))
  rename Fr _ _ _ _ => F2
  rename News _ _ _ _ => N2
  refine for_tups (n0 := 0) [(_, [Value.str (ofL W) tw, Value.str (ofL W.reverse) tm, Value.int (2 * l) (s.toks + 1)]), (_, [Value.str (ofL W) tw, Value.str (ofL H) th, Value.int l tl]), (_, [Value.str (ofL H) th, Value.str (ofL W.reverse) tm, Value.int l tl])]
    (fun i m nx => ∀ p ∈ [(Str.ofString "least", Value.int l tl), (Str.ofString "mirror", Value.str (ofL W.reverse) tm), (Str.ofString "size", Value.int (W.length : Nat) ts), (Str.ofString "word", Value.str (ofL W) tw)], m p.1 = some p.2)
    (by rfl) F2 N2 (.head _) ?ht (by walk_at "K") ?turn ?done
  case ht =>
    intro t ht
    simp only [List.mem_cons, List.not_mem_nil, or_false] at ht
    rcases ht with rfl | rfl | rfl
    · exact .tail _ (.tail _ (.tail _ (.head _)))
    · exact .tail _ (.tail _ (.head _))
    · exact .tail _ (.head _)
  case turn =>
    rintro i t m₁ nx h tk own I T9 hit hm1 hoffI hown F5 N5 hT
    obtain ⟨ea, eb, n, ta, tb, tc, ⟨hea, heb⟩, ⟨hn0, hn1⟩, hlev, ht2⟩ : ∃ (ea eb : List Nat) (n : Int) (ta tb tc : Tok), (ea.length ≤ 40 ∧ eb.length ≤ 40) ∧ (0 ≤ n ∧ n ≤ 1000) ∧ levL ea eb n = n ∧ t.2 = [Value.str (ofL ea) ta, Value.str (ofL eb) tb, Value.int n tc] := by
      rcases i with _ | _ | _ | i
      · exact ⟨_, _, _, _, _, _, ⟨by omega, by rw [List.length_reverse]; omega⟩, ⟨by omega, by omega⟩, f1, by rw [← Option.some.inj hit]⟩
      · exact ⟨_, _, _, _, _, _, ⟨by omega, hH⟩, ⟨by omega, by omega⟩, f2, by rw [← Option.some.inj hit]⟩
      · exact ⟨_, _, _, _, _, _, ⟨hH, by rw [List.length_reverse]; omega⟩, ⟨by omega, by omega⟩, f3, by rw [← Option.some.inj hit]⟩
      · cases hit
    rw [ht2] at hT
    clear F2 N2 hit ht2 hown hoffI f1 f2 f3
    have F6 := fr_norm [(Str.ofString "least", Value.int l tl), (Str.ofString "mirror", Value.str (ofL W.reverse) tm), (Str.ofString "size", Value.int (W.length : Nat) ts), (Str.ofString "word", Value.str (ofL W) tw)] F5 hm1
    clear F5
    refine wpAny_assign_Tuple (by rfl) hT rfl rfl fun h6 hx6 => ?_
    have k6 : ∀ b o, h.get? b = some o → h6.get? b = some o := fun b o e => hx6 b o (Nat.ne_of_lt (Heap.lt_size e)) e
    have F7 := F6.keeps k6
    have N7 : News h₀ L h6 _ := fun p hp => ⟨k6 _ _ (N5 p hp).1, (N5 p hp).2⟩
    clear F6 N5 hT hx6 k6
    show wpAny _ _ (do holding [_, _] (assign (.Name (Str.ofString "one") _) _ _); holding [_] (assign (.Name (Str.ofString "other") _) _ _); holding [] (assign (.Name (Str.ofString "due") _) _ _); pure ()) _ _ _
    refine wpAny_bind (wpAny_holding (wpAny_assign_Name ?_))
    repeat' (first | (k_unfold; (try dsimp only)) | ((fail_if_success (with_reducible show wpAny _ _ (exec (Stmt.While _ _ _ _) _) _ _ _)); (fail_if_success (with_reducible show wpAny _ _ (exec (Stmt.For _ _ _ _ _) _) _ _ _)); (fail_if_success (with_reducible show wpAny _ _ (pyIter _) _ _ _)); first | walk1 | (dsimp only; walk1)) | (leave1; (try dsimp only)))
    refine wpAny_bind (wpAny_holding (wpAny_assign_Name ?_))
    repeat' (first | (k_unfold; (try dsimp only)) | ((fail_if_success (with_reducible show wpAny _ _ (exec (Stmt.While _ _ _ _) _) _ _ _)); (fail_if_success (with_reducible show wpAny _ _ (exec (Stmt.For _ _ _ _ _) _) _ _ _)); (fail_if_success (with_reducible show wpAny _ _ (pyIter _) _ _ _)); first | walk1 | (dsimp only; walk1)) | (leave1; (try dsimp only)))
    refine wpAny_bind (wpAny_holding (wpAny_assign_Name ?_))
    repeat' (first | (k_unfold; (try dsimp only)) | ((fail_if_success (with_reducible show wpAny _ _ (exec (Stmt.While _ _ _ _) _) _ _ _)); (fail_if_success (with_reducible show wpAny _ _ (exec (Stmt.For _ _ _ _ _) _) _ _ _)); (fail_if_success (with_reducible show wpAny _ _ (pyIter _) _ _ _)); first | walk1 | (dsimp only; walk1)) | (leave1; (try dsimp only)))
    refine wpAny_pure ?_
    repeat' (first | (k_unfold; (try dsimp only)) | ((fail_if_success (with_reducible show wpAny _ _ (exec (Stmt.While _ _ _ _) _) _ _ _)); (fail_if_success (with_reducible show wpAny _ _ (exec (Stmt.For _ _ _ _ _) _) _ _ _)); (fail_if_success (with_reducible show wpAny _ _ (pyIter _) _ _ _)); (fail_if_success (with_reducible show wpAny _ _ (getMethod (Value.ref _) _ _) _ _ _)); (fail_if_success (with_reducible show wpAny _ _ (call (Value.ref _) _) _ _ _)); (fail_if_success (with_reducible show wpAny _ _ (call (Value.builtin "list.append") _) _ _ _)); first | walk1 | (dsimp only; walk1)) | (leave1; (try dsimp only)))
    rename Fr _ _ _ _ => F8
    rename News _ _ _ _ => N8
    refine lev_ct w p loose mean mg mb _ ea eb ta tb n tc hea heb hn0 hn1 dp un gd _ _ _ _ _ _ _ _ _ _ _ _ _ _ B F8 X N8 T rfl (by omega) (by omega) ?_
    intro tR h9 tk9 F9 N9
    rw [hlev]
    clear F8 N8
    repeat' (first | (k_unfold; (try dsimp only)) | ((fail_if_success (with_reducible show wpAny _ _ (exec (Stmt.While _ _ _ _) _) _ _ _)); (fail_if_success (with_reducible show wpAny _ _ (exec (Stmt.For _ _ _ _ _) _) _ _ _)); (fail_if_success (with_reducible show wpAny _ _ (pyIter _) _ _ _)); (fail_if_success (with_reducible show wpAny _ _ (getMethod (Value.ref _) _ _) _ _ _)); (fail_if_success (with_reducible show wpAny _ _ (call (Value.ref _) _) _ _ _)); (fail_if_success (with_reducible show wpAny _ _ (call (Value.builtin "list.append") _) _ _ _)); first | walk1 | (dsimp only; walk1)) | (leave1; (try dsimp only)))
    · rename n ≠ n => hc
      exact absurd rfl hc
    · exact LoopStepU.intro (news₂ := []) F9 (kst_newsOf N9 fun p hp => by rw [List.append_nil] at hp; exact List.mem_append_left _ hp) (by intro p hp; cases hp) (by walk_at "K")
  case done =>
    intro m₁ nx h tk hm FC NC
    dsimp only
    repeat' (first | (k_unfold; (try dsimp only)) | ((fail_if_success (with_reducible show wpAny _ _ (exec (Stmt.While _ _ _ _) _) _ _ _)); (fail_if_success (with_reducible show wpAny _ _ (exec (Stmt.For _ _ _ _ _) _) _ _ _)); (fail_if_success (with_reducible show wpAny _ _ (pyIter _) _ _ _)); first | walk1 | (dsimp only; walk1)) | (leave1; (try dsimp only)))
    exact hQ _ _ _ _ ⟨rfl, rfl, hm⟩ FC (fun p hp => nomatch hp) hG rfl
set_option maxHeartbeats 4000000 in
theorem all9 (q9 : Vt9) : Sp9 q9 := by
  refine @eps_all Vt9 ne9 Sp9 ?_ q9
  have h := core9
  unfold w p loose mean mg mb th tw ts tm tl W H l dp un gd A₀ base h₀ L u s Q R at h
  exact h
end law_three_e
set_option maxHeartbeats 4000000 in
theorem law_three (w : World) (p : Program) (loose : List Str) (mean : ExcName → Option Value) (mg mb : Str → Option Value) (th tw ts tm tl : Tok) (W H : List Nat) (l : Int) (hl0 : 0 ≤ l) (hl1 : l ≤ 400) (hW6 : W.length ≤ 6) (hH : H.length ≤ 40) (f1 : levL W W.reverse (2 * l) = 2 * l) (f2 : levL W H l = l) (f3 : levL H W.reverse l = l) : PieG w p loose mean mg mb 20 ((lawB.drop 16).take 1) (fun _ => True)
      (fun u => ∀ p ∈ [(Str.ofString "halfway", Value.str (ofL H) th), (Str.ofString "least", Value.int l tl), (Str.ofString "mirror", Value.str (ofL W.reverse) tm), (Str.ofString "size", Value.int (W.length : Nat) ts), (Str.ofString "word", Value.str (ofL W) tw)], u p.1 = some p.2) []
      (fun f m' news' => f = .next ∧ news' = [] ∧ ∀ p ∈ [(Str.ofString "least", Value.int l tl), (Str.ofString "mirror", Value.str (ofL W.reverse) tm), (Str.ofString "size", Value.int (W.length : Nat) ts), (Str.ofString "word", Value.str (ofL W) tw)], m' p.1 = some p.2) := by
  intro dp un gd A₀ base h₀ L u s Q R
  have h := law_three_e.all9 (w, p, loose, mean, mg, mb, th, tw, ts, tm, tl, W, H, l, dp, un, gd, A₀, base, h₀, L, u, s, Q, R)
  dsimp only [law_three_e.Sp9, law_three_e.St9] at h
  exact h hl0 hl1 hW6 hH f1 f2 f3
namespace law_two_e
def St9 (w : World) (p : Program) (loose : List Str) (mean : ExcName → Option Value) (mg : Str → Option Value) (mb : Str → Option Value) (tw : Tok) (ts : Tok) (tm : Tok) (tl : Tok) (W : List Nat) (l : Int) (dp : Nat) (un : Nat) (gd : Option (List Code)) (A₀ : Around) (base : Heap) (h₀ : Heap) (L : Addr) (u : Str → Option Value) (s : Shared) (Q : Flow → Shared → Prop) (R : Result → Shared → Prop) : Prop :=
  (0 ≤ l) → (l ≤ 400) → (W.length ≤ 6) → (l = 0 → W.reverse = W) → (0 < l → levL W.reverse W (2 * l - 1) = 2 * l) → (0 < l → levL W.reverse W 0 = 1) → PieGB w p loose mean mg mb 20 ((lawB.drop 17).take 1) (fun _ => True)
      (fun u => ∀ p ∈ [(Str.ofString "least", Value.int l tl), (Str.ofString "mirror", Value.str (ofL W.reverse) tm), (Str.ofString "size", Value.int (W.length : Nat) ts), (Str.ofString "word", Value.str (ofL W) tw)], u p.1 = some p.2) []
      (fun f m' news' => f = .next ∧ news' = [] ∧ ∀ p ∈ [(Str.ofString "least", Value.int l tl), (Str.ofString "mirror", Value.str (ofL W.reverse) tm), (Str.ofString "size", Value.int (W.length : Nat) ts), (Str.ofString "word", Value.str (ofL W) tw)], m' p.1 = some p.2) dp un gd A₀ base h₀ L u s Q R
abbrev Vt9 : Type := World × Program × (List Str) × (ExcName → Option Value) × (Str → Option Value) × (Str → Option Value) × Tok × Tok × Tok × Tok × (List Nat) × Int × Nat × Nat × (Option (List Code)) × Around × Heap × Heap × Addr × (Str → Option Value) × Shared × (Flow → Shared → Prop) × (Result → Shared → Prop)
theorem ne9 : Nonempty Vt9 := by
  obtain ⟨w0⟩ := neW
  exact ⟨w0, default, [], (fun _ => none), (fun _ => none), (fun _ => none), 0, 0, 0, 0, [], 0, 0, 0, none, callerA, {}, {}, 0, (fun _ => none), {}, (fun _ _ => True), (fun _ _ => True)⟩
def Sp9 (t : Vt9) : Prop := St9 (t.1) (t.2.1) (t.2.2.1) (t.2.2.2.1) (t.2.2.2.2.1) (t.2.2.2.2.2.1) (t.2.2.2.2.2.2.1) (t.2.2.2.2.2.2.2.1) (t.2.2.2.2.2.2.2.2.1) (t.2.2.2.2.2.2.2.2.2.1) (t.2.2.2.2.2.2.2.2.2.2.1) (t.2.2.2.2.2.2.2.2.2.2.2.1) (t.2.2.2.2.2.2.2.2.2.2.2.2.1) (t.2.2.2.2.2.2.2.2.2.2.2.2.2.1) (t.2.2.2.2.2.2.2.2.2.2.2.2.2.2.1) (t.2.2.2.2.2.2.2.2.2.2.2.2.2.2.2.1) (t.2.2.2.2.2.2.2.2.2.2.2.2.2.2.2.2.1) (t.2.2.2.2.2.2.2.2.2.2.2.2.2.2.2.2.2.1) (t.2.2.2.2.2.2.2.2.2.2.2.2.2.2.2.2.2.2.1) (t.2.2.2.2.2.2.2.2.2.2.2.2.2.2.2.2.2.2.2.1) (t.2.2.2.2.2.2.2.2.2.2.2.2.2.2.2.2.2.2.2.2.1) (t.2.2.2.2.2.2.2.2.2.2.2.2.2.2.2.2.2.2.2.2.2.1) (t.2.2.2.2.2.2.2.2.2.2.2.2.2.2.2.2.2.2.2.2.2.2)
noncomputable def c9 : Vt9 := @Classical.epsilon Vt9 ne9 fun t => ¬ Sp9 t
@[irreducible] noncomputable def w : World := c9.1
@[irreducible] noncomputable def p : Program := c9.2.1
@[irreducible] noncomputable def loose : List Str := c9.2.2.1
@[irreducible] noncomputable def mean : ExcName → Option Value := c9.2.2.2.1
@[irreducible] noncomputable def mg : Str → Option Value := c9.2.2.2.2.1
@[irreducible] noncomputable def mb : Str → Option Value := c9.2.2.2.2.2.1
@[irreducible] noncomputable def tw : Tok := c9.2.2.2.2.2.2.1
@[irreducible] noncomputable def ts : Tok := c9.2.2.2.2.2.2.2.1
@[irreducible] noncomputable def tm : Tok := c9.2.2.2.2.2.2.2.2.1
@[irreducible] noncomputable def tl : Tok := c9.2.2.2.2.2.2.2.2.2.1
@[irreducible] noncomputable def W : List Nat := c9.2.2.2.2.2.2.2.2.2.2.1
@[irreducible] noncomputable def l : Int := c9.2.2.2.2.2.2.2.2.2.2.2.1
@[irreducible] noncomputable def dp : Nat := c9.2.2.2.2.2.2.2.2.2.2.2.2.1
@[irreducible] noncomputable def un : Nat := c9.2.2.2.2.2.2.2.2.2.2.2.2.2.1
@[irreducible] noncomputable def gd : Option (List Code) := c9.2.2.2.2.2.2.2.2.2.2.2.2.2.2.1
@[irreducible] noncomputable def A₀ : Around := c9.2.2.2.2.2.2.2.2.2.2.2.2.2.2.2.1
@[irreducible] noncomputable def base : Heap := c9.2.2.2.2.2.2.2.2.2.2.2.2.2.2.2.2.1
@[irreducible] noncomputable def h₀ : Heap := c9.2.2.2.2.2.2.2.2.2.2.2.2.2.2.2.2.2.1
@[irreducible] noncomputable def L : Addr := c9.2.2.2.2.2.2.2.2.2.2.2.2.2.2.2.2.2.2.1
@[irreducible] noncomputable def u : Str → Option Value := c9.2.2.2.2.2.2.2.2.2.2.2.2.2.2.2.2.2.2.2.1
@[irreducible] noncomputable def s : Shared := c9.2.2.2.2.2.2.2.2.2.2.2.2.2.2.2.2.2.2.2.2.1
@[irreducible] noncomputable def Q : Flow → Shared → Prop := c9.2.2.2.2.2.2.2.2.2.2.2.2.2.2.2.2.2.2.2.2.2.1
@[irreducible] noncomputable def R : Result → Shared → Prop := c9.2.2.2.2.2.2.2.2.2.2.2.2.2.2.2.2.2.2.2.2.2.2
set_option maxRecDepth 100000 in
set_option maxHeartbeats 8000000 in
theorem core9 : St9 w p loose mean mg mb tw ts tm tl W l dp un gd A₀ base h₀ L u s Q R := by
  unfold St9 PieGB P0
  k_fill
  intro hl0 hl1 hW6 f0 f1 f2 B F hm hb X N0 T hG hdp hun hQ
  have F1 := fr_norm _ F hm
  clear F hm
  show wpAny (model Challenge.rw_sn0024_01.row.prog w) _ (execs [_] _) _ _ _
  repeat' (first | (k_unfold; (try dsimp only)) | ((fail_if_success (with_reducible show wpAny _ _ (exec (Stmt.While _ _ _ _) _) _ _ _)); (fail_if_success (with_reducible show wpAny _ _ (exec (Stmt.For _ _ _ _ _) _) _ _ _)); (fail_if_success (with_reducible show wpAny _ _ (pyIter _) _ _ _)); (fail_if_success (with_reducible show wpAny _ _ (getMethod (Value.ref _) _ _) _ _ _)); (fail_if_success (with_reducible show wpAny _ _ (call (Value.ref _) _) _ _ _)); (fail_if_success (with_reducible show wpAny _ _ (call (Value.builtin "list.append") _) _ _ _)); first | walk1 | (dsimp only; walk1)) | (leave1; (try dsimp only)))
  walk1
  repeat' (first | (k_unfold; (try dsimp only)) | ((fail_if_success (with_reducible show wpAny _ _ (exec (Stmt.While _ _ _ _) _) _ _ _)); (fail_if_success (with_reducible show wpAny _ _ (exec (Stmt.For _ _ _ _ _) _) _ _ _)); (fail_if_success (with_reducible show wpAny _ _ (pyIter _) _ _ _)); (fail_if_success (with_reducible show wpAny _ _ (getMethod (Value.ref _) _ _) _ _ _)); (fail_if_success (with_reducible show wpAny _ _ (call (Value.ref _) _) _ _ _)); (fail_if_success (with_reducible show wpAny _ _ (call (Value.builtin "list.append") _) _ _ _)); first | walk1 | (dsimp only; walk1)) | (leave1; (try dsimp only)))
  rename Fr _ _ _ _ => F2
  rename News _ _ _ _ => N2
  obtain ⟨ta, tb, tc, td, N3⟩ : ∃ (ta tb tc td : Tok), News h₀ L _ [(_, listOf #[Value.ref _, Value.ref _] 0), (_, { cls := .type "tuple", data := .seq #[Value.int 0 tc, Value.int (if 1 < l then 1 else l) td] }), (_, { cls := .type "tuple", data := .seq #[Value.int (2 * l - 1) ta, Value.int (2 * l) tb] })] := ⟨_, _, _, _, N2⟩
  clear N2
  refine for_tups (n0 := 0) [(_, [Value.int (2 * l - 1) ta, Value.int (2 * l) tb]), (_, [Value.int 0 tc, Value.int (if 1 < l then 1 else l) td])]
    (fun i m nx => ∀ p ∈ [(Str.ofString "least", Value.int l tl), (Str.ofString "mirror", Value.str (ofL W.reverse) tm), (Str.ofString "size", Value.int (W.length : Nat) ts), (Str.ofString "word", Value.str (ofL W) tw)], m p.1 = some p.2)
    (by rfl) F2 N3 (.head _) ?ht (by walk_at "K") ?turn ?done
  case ht =>
    intro t ht
    simp only [List.mem_cons, List.not_mem_nil, or_false] at ht
    rcases ht with rfl | rfl
    · exact .tail _ (.tail _ (.head _))
    · exact .tail _ (.head _)
  case turn =>
    rintro i t m₁ nx h tk own I T9 hit hm1 hoffI hown F5 N5 hT
    obtain ⟨b, d, t5, t6, hc, ht2⟩ : ∃ (b d : Int) (t5 t6 : Tok), ((0 ≤ b ∧ b ≤ 1000 ∧ levL W.reverse W b = d) ∨ (W.reverse = W ∧ d = 0)) ∧ t.2 = [Value.int b t5, Value.int d t6] := by
      rcases i with _ | _ | i
      · refine ⟨_, _, _, _, ?_, by rw [← Option.some.inj hit]⟩
        rcases Int.lt_or_le 0 l with h0 | h0
        · exact .inl ⟨by omega, by omega, f1 h0⟩
        · exact .inr ⟨f0 (by omega), by omega⟩
      · refine ⟨_, _, _, _, ?_, by rw [← Option.some.inj hit]⟩
        rcases Int.lt_or_le 0 l with h0 | h0
        · exact .inl ⟨by omega, by omega, by rw [f2 h0]; split <;> omega⟩
        · exact .inr ⟨f0 (by omega), by split <;> omega⟩
      · cases hit
    rw [ht2] at hT
    clear F2 N3 hit ht2 hown hoffI f1 f2 f0
    have F6 := fr_norm [(Str.ofString "least", Value.int l tl), (Str.ofString "mirror", Value.str (ofL W.reverse) tm), (Str.ofString "size", Value.int (W.length : Nat) ts), (Str.ofString "word", Value.str (ofL W) tw)] F5 hm1
    clear F5
    refine wpAny_assign_Tuple (by rfl) hT rfl rfl fun h6 hx6 => ?_
    have k6 : ∀ b o, h.get? b = some o → h6.get? b = some o := fun b o e => hx6 b o (Nat.ne_of_lt (Heap.lt_size e)) e
    have F7 := F6.keeps k6
    have N7 : News h₀ L h6 _ := fun p hp => ⟨k6 _ _ (N5 p hp).1, (N5 p hp).2⟩
    clear F6 N5 hT hx6 k6
    show wpAny _ _ (do holding [_] (assign (.Name (Str.ofString "bound") _) _ _); holding [] (assign (.Name (Str.ofString "due") _) _ _); pure ()) _ _ _
    refine wpAny_bind (wpAny_holding (wpAny_assign_Name ?_))
    repeat' (first | (k_unfold; (try dsimp only)) | ((fail_if_success (with_reducible show wpAny _ _ (exec (Stmt.While _ _ _ _) _) _ _ _)); (fail_if_success (with_reducible show wpAny _ _ (exec (Stmt.For _ _ _ _ _) _) _ _ _)); (fail_if_success (with_reducible show wpAny _ _ (pyIter _) _ _ _)); first | walk1 | (dsimp only; walk1)) | (leave1; (try dsimp only)))
    refine wpAny_bind (wpAny_holding (wpAny_assign_Name ?_))
    repeat' (first | (k_unfold; (try dsimp only)) | ((fail_if_success (with_reducible show wpAny _ _ (exec (Stmt.While _ _ _ _) _) _ _ _)); (fail_if_success (with_reducible show wpAny _ _ (exec (Stmt.For _ _ _ _ _) _) _ _ _)); (fail_if_success (with_reducible show wpAny _ _ (pyIter _) _ _ _)); first | walk1 | (dsimp only; walk1)) | (leave1; (try dsimp only)))
    refine wpAny_pure ?_
    repeat' (first | (k_unfold; (try dsimp only)) | ((fail_if_success (with_reducible show wpAny _ _ (exec (Stmt.While _ _ _ _) _) _ _ _)); (fail_if_success (with_reducible show wpAny _ _ (exec (Stmt.For _ _ _ _ _) _) _ _ _)); (fail_if_success (with_reducible show wpAny _ _ (pyIter _) _ _ _)); (fail_if_success (with_reducible show wpAny _ _ (getMethod (Value.ref _) _ _) _ _ _)); (fail_if_success (with_reducible show wpAny _ _ (call (Value.ref _) _) _ _ _)); (fail_if_success (with_reducible show wpAny _ _ (call (Value.builtin "list.append") _) _ _ _)); first | walk1 | (dsimp only; walk1)) | (leave1; (try dsimp only)))
    rename Fr _ _ _ _ => F8
    rename News _ _ _ _ => N8
    have hct : Ct w p loose mean mg mb 10 35 (own ++ nx) [.str (ofL W.reverse) tm, .str (ofL W) tw, .int b t5] (fun t => .int d t) := by
      rcases hc with ⟨h0, h1, e⟩ | ⟨e1, e2⟩
      · rw [← e]; exact lev_ct w p loose mean mg mb _ W.reverse W tm tw b t5 (by rw [List.length_reverse]; omega) (by omega) h0 h1
      · rw [e1, e2]; exact lev_eq0 w p loose mean mg mb _ W tm tw b t5 (by omega)
    refine hct dp un gd _ _ _ _ _ _ _ _ _ _ _ _ _ _ B F8 X N8 T rfl (by omega) (by omega) ?_
    intro tR h9 tk9 F9 N9
    clear F8 N8 hct hc
    repeat' (first | (k_unfold; (try dsimp only)) | ((fail_if_success (with_reducible show wpAny _ _ (exec (Stmt.While _ _ _ _) _) _ _ _)); (fail_if_success (with_reducible show wpAny _ _ (exec (Stmt.For _ _ _ _ _) _) _ _ _)); (fail_if_success (with_reducible show wpAny _ _ (pyIter _) _ _ _)); (fail_if_success (with_reducible show wpAny _ _ (getMethod (Value.ref _) _ _) _ _ _)); (fail_if_success (with_reducible show wpAny _ _ (call (Value.ref _) _) _ _ _)); (fail_if_success (with_reducible show wpAny _ _ (call (Value.builtin "list.append") _) _ _ _)); first | walk1 | (dsimp only; walk1)) | (leave1; (try dsimp only)))
    · rename d ≠ d => hc
      exact absurd rfl hc
    · exact LoopStepU.intro (news₂ := []) F9 (kst_newsOf N9 fun p hp => by rw [List.append_nil] at hp; exact List.mem_append_left _ hp) (by intro p hp; cases hp) (by walk_at "K")
  case done =>
    intro m₁ nx h tk hm FC NC
    dsimp only
    repeat' (first | (k_unfold; (try dsimp only)) | ((fail_if_success (with_reducible show wpAny _ _ (exec (Stmt.While _ _ _ _) _) _ _ _)); (fail_if_success (with_reducible show wpAny _ _ (exec (Stmt.For _ _ _ _ _) _) _ _ _)); (fail_if_success (with_reducible show wpAny _ _ (pyIter _) _ _ _)); first | walk1 | (dsimp only; walk1)) | (leave1; (try dsimp only)))
    exact hQ _ _ _ _ ⟨rfl, rfl, hm⟩ FC (fun p hp => nomatch hp) hG rfl
set_option maxHeartbeats 4000000 in
theorem all9 (q9 : Vt9) : Sp9 q9 := by
  refine @eps_all Vt9 ne9 Sp9 ?_ q9
  have h := core9
  unfold w p loose mean mg mb tw ts tm tl W l dp un gd A₀ base h₀ L u s Q R at h
  exact h
end law_two_e
set_option maxHeartbeats 4000000 in
theorem law_two (w : World) (p : Program) (loose : List Str) (mean : ExcName → Option Value) (mg mb : Str → Option Value) (tw ts tm tl : Tok) (W : List Nat) (l : Int) (hl0 : 0 ≤ l) (hl1 : l ≤ 400) (hW6 : W.length ≤ 6) (f0 : l = 0 → W.reverse = W) (f1 : 0 < l → levL W.reverse W (2 * l - 1) = 2 * l) (f2 : 0 < l → levL W.reverse W 0 = 1) : PieG w p loose mean mg mb 20 ((lawB.drop 17).take 1) (fun _ => True)
      (fun u => ∀ p ∈ [(Str.ofString "least", Value.int l tl), (Str.ofString "mirror", Value.str (ofL W.reverse) tm), (Str.ofString "size", Value.int (W.length : Nat) ts), (Str.ofString "word", Value.str (ofL W) tw)], u p.1 = some p.2) []
      (fun f m' news' => f = .next ∧ news' = [] ∧ ∀ p ∈ [(Str.ofString "least", Value.int l tl), (Str.ofString "mirror", Value.str (ofL W.reverse) tm), (Str.ofString "size", Value.int (W.length : Nat) ts), (Str.ofString "word", Value.str (ofL W) tw)], m' p.1 = some p.2) := by
  intro dp un gd A₀ base h₀ L u s Q R
  have h := law_two_e.all9 (w, p, loose, mean, mg, mb, tw, ts, tm, tl, W, l, dp, un, gd, A₀, base, h₀, L, u, s, Q, R)
  dsimp only [law_two_e.Sp9, law_two_e.St9] at h
  exact h hl0 hl1 hW6 f0 f1 f2
set_option maxRecDepth 100000 in
set_option maxHeartbeats 8000000 in
/-- line 181 -/
theorem law_ellip (w : World) (p : Program) (loose : List Str) (mean : ExcName → Option Value) (mg mb : Str → Option Value) (tw ts tm tl : Tok) (W : List Nat) (l : Int) (hW6 : W.length ≤ 6) (hd : 46 ∉ W) (f0 : l = 0 ↔ W.reverse = W) :
    PieG w p loose mean mg mb 20 ((lawB.drop 18).take 1) (fun _ => True)
      (fun u => ∀ p ∈ [(Str.ofString "least", Value.int l tl), (Str.ofString "mirror", Value.str (ofL W.reverse) tm), (Str.ofString "size", Value.int (W.length : Nat) ts), (Str.ofString "word", Value.str (ofL W) tw)], u p.1 = some p.2) []
      (fun f m' news' => f = .next ∧ news' = [] ∧ ∀ p ∈ [(Str.ofString "mirror", Value.str (ofL W.reverse) tm), (Str.ofString "size", Value.int (W.length : Nat) ts), (Str.ofString "word", Value.str (ofL W) tw)], m' p.1 = some p.2) := by
  unfold PieG P0
  k_fill
  intro dp un gd A₀ base h₀ L u s Q R B F hm hb X N0 T hG hdp hun hQ
  have F1 := fr_norm _ F hm
  clear F hm
  show wpAny (model Challenge.rw_sn0024_01.row.prog w) _ (execs [_] _) _ _ _
  have heq : (ofL W.reverse == ofL W) = (l == 0) := by
    rw [ofL_beq, Bool.eq_iff_iff, beq_iff_eq, beq_iff_eq]
    exact f0.symm
  repeat' (first | (k_unfold; (try dsimp only)) | ((fail_if_success (with_reducible show wpAny _ _ (exec (Stmt.While _ _ _ _) _) _ _ _)); (fail_if_success (with_reducible show wpAny _ _ (exec (Stmt.For _ _ _ _ _) _) _ _ _)); (fail_if_success (with_reducible show wpAny _ _ (pyIter _) _ _ _)); (fail_if_success (with_reducible show wpAny _ _ (getMethod (Value.ref _) _ _) _ _ _)); (fail_if_success (with_reducible show wpAny _ _ (call (Value.ref _) _) _ _ _)); (fail_if_success (with_reducible show wpAny _ _ (call (Value.builtin "list.append") _) _ _ _)); first | walk1 | (dsimp only; walk1)) | (leave1; (try dsimp only)))
  refine ell_no w p loose mean mg mb _ W.reverse (ofL W) tm tw (by simpa using hd) dp un gd _ _ _ _ _ _ _ _ _ _ _ _ _ _ B F1 X N0 T rfl (by omega) (by omega) ?_
  intro tR h9 tk9 F9 N9
  repeat' (first | (k_unfold; (try dsimp only)) | ((fail_if_success (with_reducible show wpAny _ _ (exec (Stmt.While _ _ _ _) _) _ _ _)); (fail_if_success (with_reducible show wpAny _ _ (exec (Stmt.For _ _ _ _ _) _) _ _ _)); (fail_if_success (with_reducible show wpAny _ _ (pyIter _) _ _ _)); (fail_if_success (with_reducible show wpAny _ _ (getMethod (Value.ref _) _ _) _ _ _)); (fail_if_success (with_reducible show wpAny _ _ (call (Value.ref _) _) _ _ _)); (fail_if_success (with_reducible show wpAny _ _ (call (Value.builtin "list.append") _) _ _ _)); first | walk1 | (dsimp only; walk1)) | (leave1; (try dsimp only)))
  · rename (_ != _) = true => hc
    rw [heq, bne_self_eq_false] at hc
    cases hc
  · exact hQ _ _ _ _ ⟨rfl, rfl, by walk_at "K"⟩ F9 (fun p hp => nomatch hp) hG rfl
end Mine
end
section
open PySem PySem.W PyProof.Rows PySem.Calls PySem.Spec
namespace Mine
def loopK : List Stmt := match lawB.getD 19 (.Pass default) with
  | .For _ _ body _ _ => body
  | _ => []
def bothK (W : List Nat) (i : Nat) : Bool := decide (2 * (i : Int) ≤ (W.length : Int)) && (W.reverse.take i == W.take i)
abbrev nmK (W : List Nat) (i : Nat) (ta tb ti tw ts tm : Tok) : List (Str × Value) :=
  [(Str.ofString "both", Value.bool (bothK W i)), (Str.ofString "pair", Value.str (ofL ((W.drop i).take 2)) tb), (Str.ofString "front", Value.str (ofL (W.take i)) ta), (Str.ofString "k", Value.int (i : Nat) ti), (Str.ofString "mirror", Value.str (ofL W.reverse) tm), (Str.ofString "size", Value.int (W.length : Nat) ts), (Str.ofString "word", Value.str (ofL W) tw)]
theorem take_len {W : List Nat} (i : Nat) (h : W.length ≤ 6) : (W.take i).length ≤ 6 := by rw [List.length_take]; omega
theorem occ_some (x y : List Nat) : (!(Builtin.Str.occurrences (ofL x) (ofL y) 0 (ofL x).length 1).isEmpty) = (findL x y 0 x.length).isSome := by
  have h : Builtin.Str.occurrences (ofL x) (ofL y) 0 (ofL x).length 1 = (findL x y 0 x.length).toList := by rw [ofL_len]; exact occ1_eq x y 0 x.length
  rw [h]
  cases findL x y 0 x.length <;> rfl
namespace law_k1_e
def St9 (w : World) (p : Program) (loose : List Str) (mean : ExcName → Option Value) (mg : Str → Option Value) (mb : Str → Option Value) (ti : Tok) (tw : Tok) (ts : Tok) (tm : Tok) (W : List Nat) (i : Nat) (led : CbLed) (dp : Nat) (un : Nat) (gd : Option (List Code)) (A₀ : Around) (base : Heap) (h₀ : Heap) (L : Addr) (u : Str → Option Value) (s : Shared) (Q : Flow → Shared → Prop) (R : Result → Shared → Prop) : Prop :=
  (W.length ≤ 6) → PieGB w p loose mean mg mb 20 (loopK.take 3) (fun _ => True)
      (fun u => ∀ p ∈ [(Str.ofString "k", Value.int (i : Nat) ti), (Str.ofString "mirror", Value.str (ofL W.reverse) tm), (Str.ofString "size", Value.int (W.length : Nat) ts), (Str.ofString "word", Value.str (ofL W) tw)], u p.1 = some p.2) led
      (fun f m' news' => f = .next ∧ news' = led ∧ ∃ ta tb, ∀ p ∈ nmK W i ta tb ti tw ts tm, m' p.1 = some p.2) dp un gd A₀ base h₀ L u s Q R
abbrev Vt9 : Type := World × Program × (List Str) × (ExcName → Option Value) × (Str → Option Value) × (Str → Option Value) × Tok × Tok × Tok × Tok × (List Nat) × Nat × CbLed × Nat × Nat × (Option (List Code)) × Around × Heap × Heap × Addr × (Str → Option Value) × Shared × (Flow → Shared → Prop) × (Result → Shared → Prop)
theorem ne9 : Nonempty Vt9 := by
  obtain ⟨w0⟩ := neW
  exact ⟨w0, default, [], (fun _ => none), (fun _ => none), (fun _ => none), 0, 0, 0, 0, [], 0, [], 0, 0, none, callerA, {}, {}, 0, (fun _ => none), {}, (fun _ _ => True), (fun _ _ => True)⟩
def Sp9 (t : Vt9) : Prop := St9 (t.1) (t.2.1) (t.2.2.1) (t.2.2.2.1) (t.2.2.2.2.1) (t.2.2.2.2.2.1) (t.2.2.2.2.2.2.1) (t.2.2.2.2.2.2.2.1) (t.2.2.2.2.2.2.2.2.1) (t.2.2.2.2.2.2.2.2.2.1) (t.2.2.2.2.2.2.2.2.2.2.1) (t.2.2.2.2.2.2.2.2.2.2.2.1) (t.2.2.2.2.2.2.2.2.2.2.2.2.1) (t.2.2.2.2.2.2.2.2.2.2.2.2.2.1) (t.2.2.2.2.2.2.2.2.2.2.2.2.2.2.1) (t.2.2.2.2.2.2.2.2.2.2.2.2.2.2.2.1) (t.2.2.2.2.2.2.2.2.2.2.2.2.2.2.2.2.1) (t.2.2.2.2.2.2.2.2.2.2.2.2.2.2.2.2.2.1) (t.2.2.2.2.2.2.2.2.2.2.2.2.2.2.2.2.2.2.1) (t.2.2.2.2.2.2.2.2.2.2.2.2.2.2.2.2.2.2.2.1) (t.2.2.2.2.2.2.2.2.2.2.2.2.2.2.2.2.2.2.2.2.1) (t.2.2.2.2.2.2.2.2.2.2.2.2.2.2.2.2.2.2.2.2.2.1) (t.2.2.2.2.2.2.2.2.2.2.2.2.2.2.2.2.2.2.2.2.2.2.1) (t.2.2.2.2.2.2.2.2.2.2.2.2.2.2.2.2.2.2.2.2.2.2.2)
noncomputable def c9 : Vt9 := @Classical.epsilon Vt9 ne9 fun t => ¬ Sp9 t
@[irreducible] noncomputable def w : World := c9.1
@[irreducible] noncomputable def p : Program := c9.2.1
@[irreducible] noncomputable def loose : List Str := c9.2.2.1
@[irreducible] noncomputable def mean : ExcName → Option Value := c9.2.2.2.1
@[irreducible] noncomputable def mg : Str → Option Value := c9.2.2.2.2.1
@[irreducible] noncomputable def mb : Str → Option Value := c9.2.2.2.2.2.1
@[irreducible] noncomputable def ti : Tok := c9.2.2.2.2.2.2.1
@[irreducible] noncomputable def tw : Tok := c9.2.2.2.2.2.2.2.1
@[irreducible] noncomputable def ts : Tok := c9.2.2.2.2.2.2.2.2.1
@[irreducible] noncomputable def tm : Tok := c9.2.2.2.2.2.2.2.2.2.1
@[irreducible] noncomputable def W : List Nat := c9.2.2.2.2.2.2.2.2.2.2.1
@[irreducible] noncomputable def i : Nat := c9.2.2.2.2.2.2.2.2.2.2.2.1
@[irreducible] noncomputable def led : CbLed := c9.2.2.2.2.2.2.2.2.2.2.2.2.1
@[irreducible] noncomputable def dp : Nat := c9.2.2.2.2.2.2.2.2.2.2.2.2.2.1
@[irreducible] noncomputable def un : Nat := c9.2.2.2.2.2.2.2.2.2.2.2.2.2.2.1
@[irreducible] noncomputable def gd : Option (List Code) := c9.2.2.2.2.2.2.2.2.2.2.2.2.2.2.2.1
@[irreducible] noncomputable def A₀ : Around := c9.2.2.2.2.2.2.2.2.2.2.2.2.2.2.2.2.1
@[irreducible] noncomputable def base : Heap := c9.2.2.2.2.2.2.2.2.2.2.2.2.2.2.2.2.2.1
@[irreducible] noncomputable def h₀ : Heap := c9.2.2.2.2.2.2.2.2.2.2.2.2.2.2.2.2.2.2.1
@[irreducible] noncomputable def L : Addr := c9.2.2.2.2.2.2.2.2.2.2.2.2.2.2.2.2.2.2.2.1
@[irreducible] noncomputable def u : Str → Option Value := c9.2.2.2.2.2.2.2.2.2.2.2.2.2.2.2.2.2.2.2.2.1
@[irreducible] noncomputable def s : Shared := c9.2.2.2.2.2.2.2.2.2.2.2.2.2.2.2.2.2.2.2.2.2.1
@[irreducible] noncomputable def Q : Flow → Shared → Prop := c9.2.2.2.2.2.2.2.2.2.2.2.2.2.2.2.2.2.2.2.2.2.2.1
@[irreducible] noncomputable def R : Result → Shared → Prop := c9.2.2.2.2.2.2.2.2.2.2.2.2.2.2.2.2.2.2.2.2.2.2.2
set_option maxRecDepth 100000 in
set_option maxHeartbeats 8000000 in
theorem core9 : St9 w p loose mean mg mb ti tw ts tm W i led dp un gd A₀ base h₀ L u s Q R := by
  unfold St9 PieGB P0
  k_fill
  intro hW6 B F hm hb X N0 T hG hdp hun hQ
  have F1 := fr_norm _ F hm
  clear F hm
  have e1 : Str.length (ofL W) ≤ 40 := by rw [ofL_len]; omega
  have e2 : Str.length (ofL W.reverse) ≤ 40 := by rw [ofL_len, List.length_reverse]; omega
  have q1 : (((i : Nat) : Int) + 2) = ((i + 2 : Nat) : Int) := by omega
  show wpAny (model Challenge.rw_sn0024_01.row.prog w) _ (execs [_, _, _] _) _ _ _
  repeat' (first | (k_unfold; (try dsimp only)) | ((fail_if_success (with_reducible show wpAny _ _ (exec (Stmt.While _ _ _ _) _) _ _ _)); (fail_if_success (with_reducible show wpAny _ _ (exec (Stmt.For _ _ _ _ _) _) _ _ _)); (fail_if_success (with_reducible show wpAny _ _ (pyIter _) _ _ _)); (fail_if_success (with_reducible show wpAny _ _ (getMethod (Value.ref _) _ _) _ _ _)); (fail_if_success (with_reducible show wpAny _ _ (call (Value.ref _) _) _ _ _)); (fail_if_success (with_reducible show wpAny _ _ (call (Value.builtin "list.append") _) _ _ _)); first | walk1 | (dsimp only; walk1)) | (leave1; (try dsimp only)))
  all_goals (rename Fr _ _ _ _ => F9; rename News _ _ _ _ => N9)
  all_goals (simp only [q1, slice_to, slice_mid, ofL_beq] at F9)
  all_goals (rw [show i + 2 - i = 2 by omega] at F9)
  · rename 2 * (i : Int) ≤ (W.length : Int) => hle
    rw [show (List.take i W.reverse == List.take i W) = bothK W i by unfold bothK; rw [decide_eq_true hle, Bool.true_and]] at F9
    exact hQ _ _ _ _ ⟨rfl, rfl, _, _, by walk_at "K"⟩ F9 N9 hG rfl
  · rename ¬ 2 * (i : Int) ≤ (W.length : Int) => hle
    rw [show decide (2 * (i : Int) ≤ (W.length : Int)) = bothK W i by unfold bothK; rw [decide_eq_false hle, Bool.false_and]] at F9
    exact hQ _ _ _ _ ⟨rfl, rfl, _, _, by walk_at "K"⟩ F9 N9 hG rfl
set_option maxHeartbeats 4000000 in
theorem all9 (q9 : Vt9) : Sp9 q9 := by
  refine @eps_all Vt9 ne9 Sp9 ?_ q9
  have h := core9
  unfold w p loose mean mg mb ti tw ts tm W i led dp un gd A₀ base h₀ L u s Q R at h
  exact h
end law_k1_e
set_option maxHeartbeats 4000000 in
theorem law_k1 (w : World) (p : Program) (loose : List Str) (mean : ExcName → Option Value) (mg mb : Str → Option Value) (ti tw ts tm : Tok) (W : List Nat) (hW6 : W.length ≤ 6) (i : Nat) (led : CbLed) : PieG w p loose mean mg mb 20 (loopK.take 3) (fun _ => True)
      (fun u => ∀ p ∈ [(Str.ofString "k", Value.int (i : Nat) ti), (Str.ofString "mirror", Value.str (ofL W.reverse) tm), (Str.ofString "size", Value.int (W.length : Nat) ts), (Str.ofString "word", Value.str (ofL W) tw)], u p.1 = some p.2) led
      (fun f m' news' => f = .next ∧ news' = led ∧ ∃ ta tb, ∀ p ∈ nmK W i ta tb ti tw ts tm, m' p.1 = some p.2) := by
  intro dp un gd A₀ base h₀ L u s Q R
  have h := law_k1_e.all9 (w, p, loose, mean, mg, mb, ti, tw, ts, tm, W, i, led, dp, un, gd, A₀, base, h₀, L, u, s, Q, R)
  dsimp only [law_k1_e.Sp9, law_k1_e.St9] at h
  exact h hW6
set_option maxRecDepth 100000 in
set_option maxHeartbeats 8000000 in
/-- line 187 -/
theorem law_k2 (w : World) (p : Program) (loose : List Str) (mean : ExcName → Option Value) (mg mb : Str → Option Value) (ta tb ti tw ts tm : Tok) (W : List Nat) (hW6 : W.length ≤ 6) (hd : 46 ∉ W) (i : Nat) (hK : ellL [W.take i, (W.take i).reverse] W = bothK W i) (led : CbLed) :
    PieG w p loose mean mg mb 20 ((loopK.drop 3).take 1) (fun _ => True)
      (fun u => ∀ p ∈ nmK W i ta tb ti tw ts tm, u p.1 = some p.2) led
      (fun f m' news' => f = .next ∧ news' = led ∧ ∀ p ∈ nmK W i ta tb ti tw ts tm, m' p.1 = some p.2) := by
  unfold PieG P0
  k_fill
  intro dp un gd A₀ base h₀ L u s Q R B F hm hb X N0 T hG hdp hun hQ
  have F1 := fr_norm _ F hm
  clear F hm
  have e1 : Str.length (ofL W) ≤ 40 := by rw [ofL_len]; omega
  have e2 : Str.length (ofL W.reverse) ≤ 40 := by rw [ofL_len, List.length_reverse]; omega
  have e3 : Str.length (ofL (W.take i)) ≤ 40 := by rw [ofL_len]; have := take_len i hW6; omega
  have e4 : Str.length (ofL (W.take i).reverse) ≤ 40 := by rw [ofL_len, List.length_reverse]; have := take_len i hW6; omega
  show wpAny (model Challenge.rw_sn0024_01.row.prog w) _ (execs [_] _) _ _ _
  repeat' (first | (k_unfold; (try dsimp only)) | ((fail_if_success (with_reducible show wpAny _ _ (exec (Stmt.While _ _ _ _) _) _ _ _)); (fail_if_success (with_reducible show wpAny _ _ (exec (Stmt.For _ _ _ _ _) _) _ _ _)); (fail_if_success (with_reducible show wpAny _ _ (pyIter _) _ _ _)); (fail_if_success (with_reducible show wpAny _ _ (getMethod (Value.ref _) _ _) _ _ _)); (fail_if_success (with_reducible show wpAny _ _ (call (Value.ref _) _) _ _ _)); (fail_if_success (with_reducible show wpAny _ _ (call (Value.builtin "list.append") _) _ _ _)); first | walk1 | (dsimp only; walk1)) | (leave1; (try dsimp only)))
  rw [rev_ofL]
  repeat' (first | (k_unfold; (try dsimp only)) | ((fail_if_success (with_reducible show wpAny _ _ (exec (Stmt.While _ _ _ _) _) _ _ _)); (fail_if_success (with_reducible show wpAny _ _ (exec (Stmt.For _ _ _ _ _) _) _ _ _)); (fail_if_success (with_reducible show wpAny _ _ (pyIter _) _ _ _)); (fail_if_success (with_reducible show wpAny _ _ (getMethod (Value.ref _) _ _) _ _ _)); (fail_if_success (with_reducible show wpAny _ _ (call (Value.ref _) _) _ _ _)); (fail_if_success (with_reducible show wpAny _ _ (call (Value.builtin "list.append") _) _ _ _)); first | walk1 | (dsimp only; walk1)) | (leave1; (try dsimp only)))
  rename Fr _ _ _ _ => F8
  rename News _ _ _ _ => N8
  rw [dots_eq, ofL_app, ofL_app]
  have l1 := take_len i hW6
  have l2 : (W.take i).reverse.length ≤ 6 := by rw [List.length_reverse]; exact l1
  have d1 : 46 ∉ W.take i := fun h => hd (List.mem_of_mem_take h)
  refine ell_ct w p loose mean mg mb led [W.take i, (W.take i).reverse] W _ tw (by simp) (by simp) ?_ ?_ (show (W.take i ++ dots ++ (W.take i).reverse).length ≤ 1000 by rw [List.length_append, List.length_append]; simp only [dots, List.length_cons, List.length_nil]; omega) (by omega) dp un gd _ _ _ _ _ _ _ _ _ _ _ _ _ _ B F8 X N8 T rfl (by omega) (by omega) ?_
  · intro q hq
    simp only [List.mem_cons, List.not_mem_nil, or_false] at hq
    rcases hq with rfl | rfl
    · exact d1
    · rw [List.mem_reverse]; exact d1
  · intro q hq
    simp only [List.mem_cons, List.not_mem_nil, or_false] at hq
    rcases hq with rfl | rfl <;> omega
  intro tR h9 tk9 F9 N9
  clear F8 N8
  rw [hK]
  repeat' (first | (k_unfold; (try dsimp only)) | ((fail_if_success (with_reducible show wpAny _ _ (exec (Stmt.While _ _ _ _) _) _ _ _)); (fail_if_success (with_reducible show wpAny _ _ (exec (Stmt.For _ _ _ _ _) _) _ _ _)); (fail_if_success (with_reducible show wpAny _ _ (pyIter _) _ _ _)); (fail_if_success (with_reducible show wpAny _ _ (getMethod (Value.ref _) _ _) _ _ _)); (fail_if_success (with_reducible show wpAny _ _ (call (Value.ref _) _) _ _ _)); (fail_if_success (with_reducible show wpAny _ _ (call (Value.builtin "list.append") _) _ _ _)); first | walk1 | (dsimp only; walk1)) | (leave1; (try dsimp only)))
  · rename (_ != _) = true => hc
    rw [bne_self_eq_false] at hc
    cases hc
  · exact hQ _ _ _ _ ⟨rfl, rfl, by walk_at "K"⟩ F9 N9 hG rfl
set_option maxRecDepth 100000 in
set_option maxHeartbeats 8000000 in
/-- line 189 -/
theorem law_k3 (w : World) (p : Program) (loose : List Str) (mean : ExcName → Option Value) (mg mb : Str → Option Value) (ta tb ti tw ts tm : Tok) (W : List Nat) (hW6 : W.length ≤ 6) (hd : 46 ∉ W) (i : Nat) (hK : ellL [W.reverse.take i, []] W = (W.reverse.take i == W.take i)) (led : CbLed) :
    PieG w p loose mean mg mb 20 ((loopK.drop 4).take 1) (fun _ => True)
      (fun u => ∀ p ∈ nmK W i ta tb ti tw ts tm, u p.1 = some p.2) led
      (fun f m' news' => f = .next ∧ news' = led ∧ ∀ p ∈ nmK W i ta tb ti tw ts tm, m' p.1 = some p.2) := by
  unfold PieG P0
  k_fill
  intro dp un gd A₀ base h₀ L u s Q R B F hm hb X N0 T hG hdp hun hQ
  have F1 := fr_norm _ F hm
  clear F hm
  have e1 : Str.length (ofL W) ≤ 40 := by rw [ofL_len]; omega
  have e2 : Str.length (ofL W.reverse) ≤ 40 := by rw [ofL_len, List.length_reverse]; omega
  have e3 : Str.length (ofL (W.take i)) ≤ 40 := by rw [ofL_len]; have := take_len i hW6; omega
  have e4 : Str.length (ofL ((W.drop i).take 2)) ≤ 40 := by rw [ofL_len, List.length_take]; omega
  have e5 : Str.length (Str.ofString "...") ≤ 3 := by decide +kernel
  have l1 := take_len i hW6
  have l2 : (W.reverse.take i).length ≤ 6 := take_len i (by rw [List.length_reverse]; exact hW6)
  have d1 : 46 ∉ W.reverse.take i := fun h => hd (List.mem_reverse.mp (List.mem_of_mem_take h))
  have d2 : 46 ∉ (W.drop i).take 2 := fun h => hd (List.mem_of_mem_drop (List.mem_of_mem_take h))
  have d3 : 46 ∉ W.drop i := fun h => hd (List.mem_of_mem_drop h)
  have l3 : ((W.drop i).take 2).length ≤ 6 := by rw [List.length_take]; omega
  have l4 : (W.drop i).length ≤ 6 := by rw [List.length_drop]; omega
  show wpAny (model Challenge.rw_sn0024_01.row.prog w) _ (execs [_] _) _ _ _
  repeat' (first | (k_unfold; (try dsimp only)) | ((fail_if_success (with_reducible show wpAny _ _ (exec (Stmt.While _ _ _ _) _) _ _ _)); (fail_if_success (with_reducible show wpAny _ _ (exec (Stmt.For _ _ _ _ _) _) _ _ _)); (fail_if_success (with_reducible show wpAny _ _ (pyIter _) _ _ _)); (fail_if_success (with_reducible show wpAny _ _ (getMethod (Value.ref _) _ _) _ _ _)); (fail_if_success (with_reducible show wpAny _ _ (call (Value.ref _) _) _ _ _)); (fail_if_success (with_reducible show wpAny _ _ (call (Value.builtin "list.append") _) _ _ _)); first | walk1 | (dsimp only; walk1)) | (leave1; (try dsimp only)))
  rename Fr _ _ _ _ => F8
  rename News _ _ _ _ => N8
  have ej : W.reverse.take i ++ dots = joinD [W.reverse.take i, []] := (List.append_nil _).symm
  rw [slice_to, dots_eq, ofL_app, ej]
  refine ell_ct w p loose mean mg mb led [W.reverse.take i, []] W _ tw (by simp) (by simp) ?_ ?_ (show (W.reverse.take i ++ dots ++ []).length ≤ 1000 by rw [List.length_append, List.length_append]; simp only [dots, List.length_cons, List.length_nil]; omega) (by omega) dp un gd _ _ _ _ _ _ _ _ _ _ _ _ _ _ B F8 X N8 T rfl (by omega) (by omega) ?_
  · intro q hq
    simp only [List.mem_cons, List.not_mem_nil, or_false] at hq
    rcases hq with rfl | rfl
    · exact d1
    · exact fun h => nomatch h
  · intro q hq
    simp only [List.mem_cons, List.not_mem_nil, or_false] at hq
    rcases hq with rfl | rfl
    · omega
    · simp
  intro tR h9 tk9 F9 N9
  clear F8 N8
  rw [hK]
  repeat' (first | (k_unfold; (try dsimp only)) | ((fail_if_success (with_reducible show wpAny _ _ (exec (Stmt.While _ _ _ _) _) _ _ _)); (fail_if_success (with_reducible show wpAny _ _ (exec (Stmt.For _ _ _ _ _) _) _ _ _)); (fail_if_success (with_reducible show wpAny _ _ (pyIter _) _ _ _)); (fail_if_success (with_reducible show wpAny _ _ (getMethod (Value.ref _) _ _) _ _ _)); (fail_if_success (with_reducible show wpAny _ _ (call (Value.ref _) _) _ _ _)); (fail_if_success (with_reducible show wpAny _ _ (call (Value.builtin "list.append") _) _ _ _)); first | walk1 | (dsimp only; walk1)) | (leave1; (try dsimp only)))
  · rename (_ != _) = true => hc
    rw [slice_to, ofL_beq, bne_self_eq_false] at hc
    cases hc
  · rename Fr _ _ _ _ => F10
    rename News _ _ _ _ => N10
    exact hQ _ _ _ _ ⟨rfl, rfl, by walk_at "K"⟩ F10 N10 hG rfl
set_option maxRecDepth 100000 in
set_option maxHeartbeats 8000000 in
/-- line 191 -/
theorem law_k4 (w : World) (p : Program) (loose : List Str) (mean : ExcName → Option Value) (mg mb : Str → Option Value) (ta tb ti tw ts tm : Tok) (W : List Nat) (hW6 : W.length ≤ 6) (hd : 46 ∉ W) (i : Nat) (hK : ellL [[], (W.drop i).take 2, W.drop i] W = (findL (W.take i) ((W.drop i).take 2) 0 (W.take i).length).isSome) (led : CbLed) :
    PieG w p loose mean mg mb 20 ((loopK.drop 5).take 1) (fun _ => True)
      (fun u => ∀ p ∈ nmK W i ta tb ti tw ts tm, u p.1 = some p.2) led
      (fun f m' news' => f = .next ∧ news' = led ∧ ∀ p ∈ nmK W i ta tb ti tw ts tm, m' p.1 = some p.2) := by
  unfold PieG P0
  k_fill
  intro dp un gd A₀ base h₀ L u s Q R B F hm hb X N0 T hG hdp hun hQ
  have F1 := fr_norm _ F hm
  clear F hm
  have e1 : Str.length (ofL W) ≤ 40 := by rw [ofL_len]; omega
  have e2 : Str.length (ofL W.reverse) ≤ 40 := by rw [ofL_len, List.length_reverse]; omega
  have e3 : Str.length (ofL (W.take i)) ≤ 40 := by rw [ofL_len]; have := take_len i hW6; omega
  have e4 : Str.length (ofL ((W.drop i).take 2)) ≤ 40 := by rw [ofL_len, List.length_take]; omega
  have e5 : Str.length (Str.ofString "...") ≤ 3 := by decide +kernel
  have l1 := take_len i hW6
  have l2 : (W.reverse.take i).length ≤ 6 := take_len i (by rw [List.length_reverse]; exact hW6)
  have d1 : 46 ∉ W.reverse.take i := fun h => hd (List.mem_reverse.mp (List.mem_of_mem_take h))
  have d2 : 46 ∉ (W.drop i).take 2 := fun h => hd (List.mem_of_mem_drop (List.mem_of_mem_take h))
  have d3 : 46 ∉ W.drop i := fun h => hd (List.mem_of_mem_drop h)
  have l3 : ((W.drop i).take 2).length ≤ 6 := by rw [List.length_take]; omega
  have l4 : (W.drop i).length ≤ 6 := by rw [List.length_drop]; omega
  show wpAny (model Challenge.rw_sn0024_01.row.prog w) _ (execs [_] _) _ _ _
  repeat' (first | (k_unfold; (try dsimp only)) | ((fail_if_success (with_reducible show wpAny _ _ (exec (Stmt.While _ _ _ _) _) _ _ _)); (fail_if_success (with_reducible show wpAny _ _ (exec (Stmt.For _ _ _ _ _) _) _ _ _)); (fail_if_success (with_reducible show wpAny _ _ (pyIter _) _ _ _)); (fail_if_success (with_reducible show wpAny _ _ (getMethod (Value.ref _) _ _) _ _ _)); (fail_if_success (with_reducible show wpAny _ _ (call (Value.ref _) _) _ _ _)); (fail_if_success (with_reducible show wpAny _ _ (call (Value.builtin "list.append") _) _ _ _)); first | walk1 | (dsimp only; walk1)) | (leave1; (try dsimp only)))
  rename Fr _ _ _ _ => F8
  rename News _ _ _ _ => N8
  have ej : dots ++ (W.drop i).take 2 ++ dots ++ W.drop i = joinD [[], (W.drop i).take 2, W.drop i] := by simp [joinD]
  rw [slice_from, dots_eq, ofL_app, ofL_app, ofL_app, ej]
  refine ell_ct w p loose mean mg mb led [[], (W.drop i).take 2, W.drop i] W _ tw (by simp) (by simp) ?_ ?_ (by rw [← ej]; simp only [List.length_append, dots, List.length_cons, List.length_nil]; omega) (by omega) dp un gd _ _ _ _ _ _ _ _ _ _ _ _ _ _ B F8 X N8 T rfl (by omega) (by omega) ?_
  · intro q hq
    simp only [List.mem_cons, List.not_mem_nil, or_false] at hq
    rcases hq with rfl | rfl | rfl
    · exact fun h => nomatch h
    · exact d2
    · exact d3
  · intro q hq
    simp only [List.mem_cons, List.not_mem_nil, or_false] at hq
    rcases hq with rfl | rfl | rfl
    · simp
    · omega
    · omega
  intro tR h9 tk9 F9 N9
  clear F8 N8
  rw [hK]
  repeat' (first | (k_unfold; (try dsimp only)) | ((fail_if_success (with_reducible show wpAny _ _ (exec (Stmt.While _ _ _ _) _) _ _ _)); (fail_if_success (with_reducible show wpAny _ _ (exec (Stmt.For _ _ _ _ _) _) _ _ _)); (fail_if_success (with_reducible show wpAny _ _ (pyIter _) _ _ _)); (fail_if_success (with_reducible show wpAny _ _ (getMethod (Value.ref _) _ _) _ _ _)); (fail_if_success (with_reducible show wpAny _ _ (call (Value.ref _) _) _ _ _)); (fail_if_success (with_reducible show wpAny _ _ (call (Value.builtin "list.append") _) _ _ _)); first | walk1 | (dsimp only; walk1)) | (leave1; (try dsimp only)))
  · rename (_ != _) = true => hc
    rw [occ_some, bne_self_eq_false] at hc
    cases hc
  · rename Fr _ _ _ _ => F10
    rename News _ _ _ _ => N10
    exact hQ _ _ _ _ ⟨rfl, rfl, by walk_at "K"⟩ F10 N10 hG rfl
namespace law_last_e
def St9 (w : World) (p : Program) (loose : List Str) (mean : ExcName → Option Value) (mg : Str → Option Value) (mb : Str → Option Value) (tw : Tok) (ts : Tok) (tm : Tok) (W : List Nat) (dp : Nat) (un : Nat) (gd : Option (List Code)) (A₀ : Around) (base : Heap) (h₀ : Heap) (L : Addr) (u : Str → Option Value) (s : Shared) (Q : Flow → Shared → Prop) (R : Result → Shared → Prop) : Prop :=
  (W.length ≤ 6) → (46 ∉ W) → (∀ i, i ≤ W.length → ellL [W.take i, (W.take i).reverse] W = bothK W i) → (∀ i, i ≤ W.length → ellL [W.reverse.take i, []] W = (W.reverse.take i == W.take i)) → (∀ i, i ≤ W.length → ellL [[], (W.drop i).take 2, W.drop i] W = (findL (W.take i) ((W.drop i).take 2) 0 (W.take i).length).isSome) → PieGB w p loose mean mg mb 20 (lawB.drop 19) (fun _ => True)
      (fun u => ∀ p ∈ [(Str.ofString "mirror", Value.str (ofL W.reverse) tm), (Str.ofString "size", Value.int (W.length : Nat) ts), (Str.ofString "word", Value.str (ofL W) tw)], u p.1 = some p.2) []
      (fun f m' news' => f = .ret (.bool true) ∧ news' = []) dp un gd A₀ base h₀ L u s Q R
abbrev Vt9 : Type := World × Program × (List Str) × (ExcName → Option Value) × (Str → Option Value) × (Str → Option Value) × Tok × Tok × Tok × (List Nat) × Nat × Nat × (Option (List Code)) × Around × Heap × Heap × Addr × (Str → Option Value) × Shared × (Flow → Shared → Prop) × (Result → Shared → Prop)
theorem ne9 : Nonempty Vt9 := by
  obtain ⟨w0⟩ := neW
  exact ⟨w0, default, [], (fun _ => none), (fun _ => none), (fun _ => none), 0, 0, 0, [], 0, 0, none, callerA, {}, {}, 0, (fun _ => none), {}, (fun _ _ => True), (fun _ _ => True)⟩
def Sp9 (t : Vt9) : Prop := St9 (t.1) (t.2.1) (t.2.2.1) (t.2.2.2.1) (t.2.2.2.2.1) (t.2.2.2.2.2.1) (t.2.2.2.2.2.2.1) (t.2.2.2.2.2.2.2.1) (t.2.2.2.2.2.2.2.2.1) (t.2.2.2.2.2.2.2.2.2.1) (t.2.2.2.2.2.2.2.2.2.2.1) (t.2.2.2.2.2.2.2.2.2.2.2.1) (t.2.2.2.2.2.2.2.2.2.2.2.2.1) (t.2.2.2.2.2.2.2.2.2.2.2.2.2.1) (t.2.2.2.2.2.2.2.2.2.2.2.2.2.2.1) (t.2.2.2.2.2.2.2.2.2.2.2.2.2.2.2.1) (t.2.2.2.2.2.2.2.2.2.2.2.2.2.2.2.2.1) (t.2.2.2.2.2.2.2.2.2.2.2.2.2.2.2.2.2.1) (t.2.2.2.2.2.2.2.2.2.2.2.2.2.2.2.2.2.2.1) (t.2.2.2.2.2.2.2.2.2.2.2.2.2.2.2.2.2.2.2.1) (t.2.2.2.2.2.2.2.2.2.2.2.2.2.2.2.2.2.2.2.2)
noncomputable def c9 : Vt9 := @Classical.epsilon Vt9 ne9 fun t => ¬ Sp9 t
@[irreducible] noncomputable def w : World := c9.1
@[irreducible] noncomputable def p : Program := c9.2.1
@[irreducible] noncomputable def loose : List Str := c9.2.2.1
@[irreducible] noncomputable def mean : ExcName → Option Value := c9.2.2.2.1
@[irreducible] noncomputable def mg : Str → Option Value := c9.2.2.2.2.1
@[irreducible] noncomputable def mb : Str → Option Value := c9.2.2.2.2.2.1
@[irreducible] noncomputable def tw : Tok := c9.2.2.2.2.2.2.1
@[irreducible] noncomputable def ts : Tok := c9.2.2.2.2.2.2.2.1
@[irreducible] noncomputable def tm : Tok := c9.2.2.2.2.2.2.2.2.1
@[irreducible] noncomputable def W : List Nat := c9.2.2.2.2.2.2.2.2.2.1
@[irreducible] noncomputable def dp : Nat := c9.2.2.2.2.2.2.2.2.2.2.1
@[irreducible] noncomputable def un : Nat := c9.2.2.2.2.2.2.2.2.2.2.2.1
@[irreducible] noncomputable def gd : Option (List Code) := c9.2.2.2.2.2.2.2.2.2.2.2.2.1
@[irreducible] noncomputable def A₀ : Around := c9.2.2.2.2.2.2.2.2.2.2.2.2.2.1
@[irreducible] noncomputable def base : Heap := c9.2.2.2.2.2.2.2.2.2.2.2.2.2.2.1
@[irreducible] noncomputable def h₀ : Heap := c9.2.2.2.2.2.2.2.2.2.2.2.2.2.2.2.1
@[irreducible] noncomputable def L : Addr := c9.2.2.2.2.2.2.2.2.2.2.2.2.2.2.2.2.1
@[irreducible] noncomputable def u : Str → Option Value := c9.2.2.2.2.2.2.2.2.2.2.2.2.2.2.2.2.2.1
@[irreducible] noncomputable def s : Shared := c9.2.2.2.2.2.2.2.2.2.2.2.2.2.2.2.2.2.2.1
@[irreducible] noncomputable def Q : Flow → Shared → Prop := c9.2.2.2.2.2.2.2.2.2.2.2.2.2.2.2.2.2.2.2.1
@[irreducible] noncomputable def R : Result → Shared → Prop := c9.2.2.2.2.2.2.2.2.2.2.2.2.2.2.2.2.2.2.2.2
set_option maxRecDepth 100000 in
set_option maxHeartbeats 8000000 in
theorem core9 : St9 w p loose mean mg mb tw ts tm W dp un gd A₀ base h₀ L u s Q R := by
  unfold St9 PieGB P0
  k_fill
  intro hW6 hd hK2 hK3 hK4 B F hm hb X N0 T hG hdp hun hQ
  have F1 := fr_norm _ F hm
  clear F hm
  have rs1 : Builtin.Range.small 0 ((W.length : Int) + 1) 1 = true := small_one (by omega) (by omega) (by omega) (by omega)
  have rs2 : Builtin.Range.rangeSize 0 ((W.length : Int) + 1) 1 = ((W.length + 1 : Nat) : Int) := by rw [rangeSize_nat]; omega
  show wpAny (model Challenge.rw_sn0024_01.row.prog w) _ (execs [_, _] _) _ _ _
  repeat' (first | (k_unfold; (try dsimp only)) | ((fail_if_success (with_reducible show wpAny _ _ (exec (Stmt.While _ _ _ _) _) _ _ _)); (fail_if_success (with_reducible show wpAny _ _ (exec (Stmt.For _ _ _ _ _) _) _ _ _)); (fail_if_success (with_reducible show wpAny _ _ (pyIter _) _ _ _)); (fail_if_success (with_reducible show wpAny _ _ (getMethod (Value.ref _) _ _) _ _ _)); (fail_if_success (with_reducible show wpAny _ _ (call (Value.ref _) _) _ _ _)); (fail_if_success (with_reducible show wpAny _ _ (call (Value.builtin "list.append") _) _ _ _)); first | walk1 | (dsimp only; walk1)) | (leave1; (try dsimp only)))
  refine for_rngG (hb := h₀) 0 1 (W.length + 1) s.os (fun i m nx => nx = [] ∧ ∀ p ∈ [(Str.ofString "mirror", Value.str (ofL W.reverse) tm), (Str.ofString "size", Value.int (W.length : Nat) ts), (Str.ofString "word", Value.str (ofL W) tw)], m p.1 = some p.2) rfl rfl rfl ?iter ?turn ?done
  case iter =>
    repeat' (first | (k_unfold; (try dsimp only)) | ((fail_if_success (with_reducible show wpAny _ _ (exec (Stmt.While _ _ _ _) _) _ _ _)); (fail_if_success (with_reducible show wpAny _ _ (exec (Stmt.For _ _ _ _ _) _) _ _ _)); (fail_if_success (with_reducible show wpAny _ _ (pyIter _) _ _ _)); first | walk1 | (dsimp only; walk1)) | (leave1; (try dsimp only)))
    rename IsRange _ _ _ _ _ _ _ _ => R7
    rename Fr _ _ _ _ => F6
    rename News _ _ _ _ => N7
    exact RngIn.mk (s₁ := { s with heap := _, toks := _ }) R7 rs1 rs2 F6 N7 hG rfl ⟨rfl, by walk_at "K"⟩
  case turn =>
    rintro i m nx s' I t hi ⟨rfl, hm⟩ hI F6 N7 G7 os7
    have F7 := fr_loop [(Str.ofString "mirror", Value.str (ofL W.reverse) tm), (Str.ofString "size", Value.int (W.length : Nat) ts), (Str.ofString "word", Value.str (ofL W) tw)] F6 hm
    clear F6 F1
    simp only [Int.zero_add, Int.mul_one] at F7
    have hi' : i ≤ W.length := by omega
    show wpAny _ _ (execs (loopK.take 3 ++ ((loopK.drop 3).take 1 ++ ((loopK.drop 4).take 1 ++ (loopK.drop 5).take 1))) _) _ _ _
    refine execs_app _ _ ?_
    refine law_k1 w p loose mean mg mb t tw ts tm W hW6 i _ dp un gd A₀ base h₀ L _ s' _ R B F7 (by walk_at "K") trivial X N7 T G7 (by omega) (by omega) ?_
    rintro f s2 m2 news2 ⟨rfl, rfl, ta, tb, hm2⟩ F8 N8 G8 os8
    clear F7 N7
    dsimp only
    refine execs_app _ _ ?_
    refine law_k2 w p loose mean mg mb ta tb t tw ts tm W hW6 hd i (hK2 i hi') _ dp un gd A₀ base h₀ L _ s2 _ R B F8 hm2 trivial X N8 T G8 (by omega) (by omega) ?_
    rintro f s3 m3 news3 ⟨rfl, rfl, hm3⟩ F9 N9 G9 os9
    clear F8 N8
    dsimp only
    refine execs_app _ _ ?_
    refine law_k3 w p loose mean mg mb ta tb t tw ts tm W hW6 hd i (hK3 i hi') _ dp un gd A₀ base h₀ L _ s3 _ R B F9 hm3 trivial X N9 T G9 (by omega) (by omega) ?_
    rintro f s4 m4 news4 ⟨rfl, rfl, hm4⟩ F10 N10 G10 os10
    clear F9 N9
    dsimp only
    refine law_k4 w p loose mean mg mb ta tb t tw ts tm W hW6 hd i (hK4 i hi') _ dp un gd A₀ base h₀ L _ s4 _ R B F10 hm4 trivial X N10 T G10 (by omega) (by omega) ?_
    rintro f s5 m5 news5 ⟨rfl, rfl, hm5⟩ F11 N11 G11 os11
    refine RngTurn.mk (nx' := []) F11 (kst_newsOf N11 ?_) (fun p hp => nomatch hp) ⟨rfl, ?_⟩ G11 (by rw [os11, os10, os9, os8, os7])
    · intro p hp
      rcases List.mem_cons.mp hp with rfl | hp
      · exact .head _
      · cases hp
    · exact names_sub hm5 (by walk_at "S")
  case done =>
    rintro m nx s' ⟨rfl, hm⟩ F6 N6 G6 os6
    repeat' (first | (k_unfold; (try dsimp only)) | ((fail_if_success (with_reducible show wpAny _ _ (exec (Stmt.While _ _ _ _) _) _ _ _)); (fail_if_success (with_reducible show wpAny _ _ (exec (Stmt.For _ _ _ _ _) _) _ _ _)); (fail_if_success (with_reducible show wpAny _ _ (pyIter _) _ _ _)); first | walk1 | (dsimp only; walk1)) | (leave1; (try dsimp only)))
    exact hQ _ _ _ _ ⟨rfl, rfl⟩ F6 N6 G6 os6
set_option maxHeartbeats 4000000 in
theorem all9 (q9 : Vt9) : Sp9 q9 := by
  refine @eps_all Vt9 ne9 Sp9 ?_ q9
  have h := core9
  unfold w p loose mean mg mb tw ts tm W dp un gd A₀ base h₀ L u s Q R at h
  exact h
end law_last_e
set_option maxHeartbeats 4000000 in
theorem law_last (w : World) (p : Program) (loose : List Str) (mean : ExcName → Option Value) (mg mb : Str → Option Value) (tw ts tm : Tok) (W : List Nat) (hW6 : W.length ≤ 6) (hd : 46 ∉ W)
    (hK2 : ∀ i, i ≤ W.length → ellL [W.take i, (W.take i).reverse] W = bothK W i) (hK3 : ∀ i, i ≤ W.length → ellL [W.reverse.take i, []] W = (W.reverse.take i == W.take i)) (hK4 : ∀ i, i ≤ W.length → ellL [[], (W.drop i).take 2, W.drop i] W = (findL (W.take i) ((W.drop i).take 2) 0 (W.take i).length).isSome) : PieG w p loose mean mg mb 20 (lawB.drop 19) (fun _ => True)
      (fun u => ∀ p ∈ [(Str.ofString "mirror", Value.str (ofL W.reverse) tm), (Str.ofString "size", Value.int (W.length : Nat) ts), (Str.ofString "word", Value.str (ofL W) tw)], u p.1 = some p.2) []
      (fun f m' news' => f = .ret (.bool true) ∧ news' = []) := by
  intro dp un gd A₀ base h₀ L u s Q R
  have h := law_last_e.all9 (w, p, loose, mean, mg, mb, tw, ts, tm, W, dp, un, gd, A₀, base, h₀, L, u, s, Q, R)
  dsimp only [law_last_e.Sp9, law_last_e.St9] at h
  exact h hW6 hd hK2 hK3 hK4
end Mine
end
section
open PySem PySem.W PyProof.Rows PySem.Calls PySem.Spec
namespace Mine
theorem drop_split {α : Type} (l : List α) (n k : Nat) : l.drop n = (l.drop n).take k ++ l.drop (n + k) := by
  rw [← List.drop_drop, List.take_append_drop]
/-- the twelve states -/
def trW (W : List Nat) : List (List Nat × List Nat × List Nat) := trS (pcs W 3) 3
def apT (W : List Nat) (t : List Nat × List Nat × List Nat) : Int := apL t.1 t.2.2 (2 * (W.length : Int))
def meT (t : List Nat × List Nat × List Nat) : List Nat := t.1 ++ t.2.1 ++ t.1.reverse
/-- what the law asks of the codes -/
structure LawFacts (codes : List Nat) (W : List Nat) (l : Int) : Prop where
  n0 : 0 ≤ l
  n1 : l ≤ 400
  dot : 46 ∉ W
  all : ∀ t ∈ trW W, l ≤ apT W t
  half : ∃ (j : Nat) (t : List Nat × List Nat × List Nat), j ≤ 900 ∧ (trW W)[j]? = some t ∧ apT W t = l ∧ (∀ m, m < j → ∀ t', (trW W)[m]? = some t' → apT W t' ≠ l) ∧ levL W (meT t) l = l ∧ levL (meT t) W.reverse l = l ∧ (meT t).length ≤ 40
  ww : levL W W.reverse (2 * l) = 2 * l
  w1 : 0 < l → levL W.reverse W (2 * l - 1) = 2 * l
  w0 : 0 < l → levL W.reverse W 0 = 1
  pal : l = 0 ↔ W.reverse = W
  k2 : ∀ i, i ≤ W.length → ellL [W.take i, (W.take i).reverse] W = bothK W i
  k3 : ∀ i, i ≤ W.length → ellL [W.reverse.take i, []] W = (W.reverse.take i == W.take i)
  k4 : ∀ i, i ≤ W.length → ellL [[], (W.drop i).take 2, W.drop i] W = (findL (W.take i) ((W.drop i).take 2) 0 (W.take i).length).isSome
theorem flat_tx (l : List Pc) : flatP l = ((l.map Pc.tx).map fun p => p.1 ++ p.2).flatten := by
  unfold flatP
  rw [List.map_map]
  rfl
theorem flat_pcs {W : List Nat} (h : W.length = 5 ∨ W.length = 6) : ((pcs W 3).map fun p => p.1 ++ p.2).flatten = W := by
  rcases h with h | h
  · match W, h with
    | [a, b, c, d, e], _ => rfl
  · match W, h with
    | [a, b, c, d, e, f], _ => rfl
theorem flat_sw {W : List Nat} (h : W.length = 5 ∨ W.length = 6) : (((pcs W 3).reverse.map sw).map fun p => p.1 ++ p.2).flatten = W.reverse := by
  rcases h with h | h
  · match W, h with
    | [a, b, c, d, e], _ => rfl
  · match W, h with
    | [a, b, c, d, e, f], _ => rfl
theorem pcs_ok {W : List Nat} (h : W.length = 5 ∨ W.length = 6) (hd : 46 ∉ W) : HpsOk (pcs W 3) := by
  refine ⟨by simp [pcs], ?_⟩
  intro t ht
  unfold pcs at ht
  obtain ⟨j, hj, rfl⟩ := List.mem_map.mp ht
  have hj' := List.mem_range.mp hj
  have hlt : 2 * j < W.length := by omega
  refine ⟨⟨by simp, by rw [List.length_take]; omega⟩, ?_, fun h => hd (List.mem_of_mem_drop (List.mem_of_mem_take h))⟩
  intro hm
  have e := List.mem_singleton.mp hm
  rw [getD_at hlt] at e
  exact hd (e ▸ List.getElem_mem hlt)
theorem map_get {α β γ : Type} {f : α → γ} {g : β → γ} {l : List α} {r : List β} (h : l.map f = r.map g) {j : Nat} {b : β} (hj : r[j]? = some b) : ∃ a, l[j]? = some a ∧ f a = g b := by
  have e := congrArg (fun z : List γ => z[j]?) h
  simp only [List.getElem?_map, hj, Option.map_some] at e
  cases ha : l[j]? with
  | none => rw [ha] at e; cases e
  | some a => rw [ha] at e; exact ⟨a, rfl, Option.some.inj e⟩
namespace law_rest_e
def St9 (w : World) (p : Program) (loose : List Str) (mean : ExcName → Option Value) (mg : Str → Option Value) (mb : Str → Option Value) (P : Addr) (x : Addr) (dx : Addr) (y : Addr) (dy : Addr) (C : Addr) (n1 : Nat) (n2 : Nat) (t1 : Tok) (t2 : Tok) (t3 : Tok) (t4 : Tok) (tw : Tok) (ts : Tok) (fs : List Pc) (rest : CbLed) (cv : List Value) (nc : Nat) (codes : List Nat) (W : List Nat) (dp : Nat) (un : Nat) (gd : Option (List Code)) (A₀ : Around) (base : Heap) (h₀ : Heap) (L : Addr) (u : Str → Option Value) (s : Shared) (Q : Flow → Shared → Prop) (R : Result → Shared → Prop) : Prop :=
  (OffL x dx y dy rest) → (HasP fs rest) → (IntsAre cv (codes.map fun (c : Nat) => (c : Int))) → (cv.length = 5 ∨ cv.length = 6) → ((C, listOf cv.toArray nc) ∈ rest) → (W.length = 5 ∨ W.length = 6) → (fs.map Pc.tx = pcs W 3) → (LawFacts codes W (leastL codes)) → PieGB w p loose mean mg mb 60 (lawB.drop 9) (HbC P)
      (fun u => ∀ p ∈ [(Str.ofString "aft", Value.ref y), (Str.ofString "fore", Value.ref x), (Str.ofString "size", Value.int (W.length : Nat) ts), (Str.ofString "word", Value.str (ofL W) tw), (Str.ofString "codes", Value.ref C)], u p.1 = some p.2) (LedL w x dx y dy n1 n2 t1 t2 t3 t4 fs [] rest)
      (fun f m' news' => f = .ret (.bool true)) dp un gd A₀ base h₀ L u s Q R
abbrev Vt9 : Type := World × Program × (List Str) × (ExcName → Option Value) × (Str → Option Value) × (Str → Option Value) × Addr × Addr × Addr × Addr × Addr × Addr × Nat × Nat × Tok × Tok × Tok × Tok × Tok × Tok × (List Pc) × CbLed × (List Value) × Nat × (List Nat) × (List Nat) × Nat × Nat × (Option (List Code)) × Around × Heap × Heap × Addr × (Str → Option Value) × Shared × (Flow → Shared → Prop) × (Result → Shared → Prop)
theorem ne9 : Nonempty Vt9 := by
  obtain ⟨w0⟩ := neW
  exact ⟨w0, default, [], (fun _ => none), (fun _ => none), (fun _ => none), 0, 0, 0, 0, 0, 0, 0, 0, 0, 0, 0, 0, 0, 0, [], [], [], 0, [], [], 0, 0, none, callerA, {}, {}, 0, (fun _ => none), {}, (fun _ _ => True), (fun _ _ => True)⟩
def Sp9 (t : Vt9) : Prop := St9 (t.1) (t.2.1) (t.2.2.1) (t.2.2.2.1) (t.2.2.2.2.1) (t.2.2.2.2.2.1) (t.2.2.2.2.2.2.1) (t.2.2.2.2.2.2.2.1) (t.2.2.2.2.2.2.2.2.1) (t.2.2.2.2.2.2.2.2.2.1) (t.2.2.2.2.2.2.2.2.2.2.1) (t.2.2.2.2.2.2.2.2.2.2.2.1) (t.2.2.2.2.2.2.2.2.2.2.2.2.1) (t.2.2.2.2.2.2.2.2.2.2.2.2.2.1) (t.2.2.2.2.2.2.2.2.2.2.2.2.2.2.1) (t.2.2.2.2.2.2.2.2.2.2.2.2.2.2.2.1) (t.2.2.2.2.2.2.2.2.2.2.2.2.2.2.2.2.1) (t.2.2.2.2.2.2.2.2.2.2.2.2.2.2.2.2.2.1) (t.2.2.2.2.2.2.2.2.2.2.2.2.2.2.2.2.2.2.1) (t.2.2.2.2.2.2.2.2.2.2.2.2.2.2.2.2.2.2.2.1) (t.2.2.2.2.2.2.2.2.2.2.2.2.2.2.2.2.2.2.2.2.1) (t.2.2.2.2.2.2.2.2.2.2.2.2.2.2.2.2.2.2.2.2.2.1) (t.2.2.2.2.2.2.2.2.2.2.2.2.2.2.2.2.2.2.2.2.2.2.1) (t.2.2.2.2.2.2.2.2.2.2.2.2.2.2.2.2.2.2.2.2.2.2.2.1) (t.2.2.2.2.2.2.2.2.2.2.2.2.2.2.2.2.2.2.2.2.2.2.2.2.1) (t.2.2.2.2.2.2.2.2.2.2.2.2.2.2.2.2.2.2.2.2.2.2.2.2.2.1) (t.2.2.2.2.2.2.2.2.2.2.2.2.2.2.2.2.2.2.2.2.2.2.2.2.2.2.1) (t.2.2.2.2.2.2.2.2.2.2.2.2.2.2.2.2.2.2.2.2.2.2.2.2.2.2.2.1) (t.2.2.2.2.2.2.2.2.2.2.2.2.2.2.2.2.2.2.2.2.2.2.2.2.2.2.2.2.1) (t.2.2.2.2.2.2.2.2.2.2.2.2.2.2.2.2.2.2.2.2.2.2.2.2.2.2.2.2.2.1) (t.2.2.2.2.2.2.2.2.2.2.2.2.2.2.2.2.2.2.2.2.2.2.2.2.2.2.2.2.2.2.1) (t.2.2.2.2.2.2.2.2.2.2.2.2.2.2.2.2.2.2.2.2.2.2.2.2.2.2.2.2.2.2.2.1) (t.2.2.2.2.2.2.2.2.2.2.2.2.2.2.2.2.2.2.2.2.2.2.2.2.2.2.2.2.2.2.2.2.1) (t.2.2.2.2.2.2.2.2.2.2.2.2.2.2.2.2.2.2.2.2.2.2.2.2.2.2.2.2.2.2.2.2.2.1) (t.2.2.2.2.2.2.2.2.2.2.2.2.2.2.2.2.2.2.2.2.2.2.2.2.2.2.2.2.2.2.2.2.2.2.1) (t.2.2.2.2.2.2.2.2.2.2.2.2.2.2.2.2.2.2.2.2.2.2.2.2.2.2.2.2.2.2.2.2.2.2.2.1) (t.2.2.2.2.2.2.2.2.2.2.2.2.2.2.2.2.2.2.2.2.2.2.2.2.2.2.2.2.2.2.2.2.2.2.2.2)
noncomputable def c9 : Vt9 := @Classical.epsilon Vt9 ne9 fun t => ¬ Sp9 t
@[irreducible] noncomputable def w : World := c9.1
@[irreducible] noncomputable def p : Program := c9.2.1
@[irreducible] noncomputable def loose : List Str := c9.2.2.1
@[irreducible] noncomputable def mean : ExcName → Option Value := c9.2.2.2.1
@[irreducible] noncomputable def mg : Str → Option Value := c9.2.2.2.2.1
@[irreducible] noncomputable def mb : Str → Option Value := c9.2.2.2.2.2.1
@[irreducible] noncomputable def P : Addr := c9.2.2.2.2.2.2.1
@[irreducible] noncomputable def x : Addr := c9.2.2.2.2.2.2.2.1
@[irreducible] noncomputable def dx : Addr := c9.2.2.2.2.2.2.2.2.1
@[irreducible] noncomputable def y : Addr := c9.2.2.2.2.2.2.2.2.2.1
@[irreducible] noncomputable def dy : Addr := c9.2.2.2.2.2.2.2.2.2.2.1
@[irreducible] noncomputable def C : Addr := c9.2.2.2.2.2.2.2.2.2.2.2.1
@[irreducible] noncomputable def n1 : Nat := c9.2.2.2.2.2.2.2.2.2.2.2.2.1
@[irreducible] noncomputable def n2 : Nat := c9.2.2.2.2.2.2.2.2.2.2.2.2.2.1
@[irreducible] noncomputable def t1 : Tok := c9.2.2.2.2.2.2.2.2.2.2.2.2.2.2.1
@[irreducible] noncomputable def t2 : Tok := c9.2.2.2.2.2.2.2.2.2.2.2.2.2.2.2.1
@[irreducible] noncomputable def t3 : Tok := c9.2.2.2.2.2.2.2.2.2.2.2.2.2.2.2.2.1
@[irreducible] noncomputable def t4 : Tok := c9.2.2.2.2.2.2.2.2.2.2.2.2.2.2.2.2.2.1
@[irreducible] noncomputable def tw : Tok := c9.2.2.2.2.2.2.2.2.2.2.2.2.2.2.2.2.2.2.1
@[irreducible] noncomputable def ts : Tok := c9.2.2.2.2.2.2.2.2.2.2.2.2.2.2.2.2.2.2.2.1
@[irreducible] noncomputable def fs : List Pc := c9.2.2.2.2.2.2.2.2.2.2.2.2.2.2.2.2.2.2.2.2.1
@[irreducible] noncomputable def rest : CbLed := c9.2.2.2.2.2.2.2.2.2.2.2.2.2.2.2.2.2.2.2.2.2.1
@[irreducible] noncomputable def cv : List Value := c9.2.2.2.2.2.2.2.2.2.2.2.2.2.2.2.2.2.2.2.2.2.2.1
@[irreducible] noncomputable def nc : Nat := c9.2.2.2.2.2.2.2.2.2.2.2.2.2.2.2.2.2.2.2.2.2.2.2.1
@[irreducible] noncomputable def codes : List Nat := c9.2.2.2.2.2.2.2.2.2.2.2.2.2.2.2.2.2.2.2.2.2.2.2.2.1
@[irreducible] noncomputable def W : List Nat := c9.2.2.2.2.2.2.2.2.2.2.2.2.2.2.2.2.2.2.2.2.2.2.2.2.2.1
@[irreducible] noncomputable def dp : Nat := c9.2.2.2.2.2.2.2.2.2.2.2.2.2.2.2.2.2.2.2.2.2.2.2.2.2.2.1
@[irreducible] noncomputable def un : Nat := c9.2.2.2.2.2.2.2.2.2.2.2.2.2.2.2.2.2.2.2.2.2.2.2.2.2.2.2.1
@[irreducible] noncomputable def gd : Option (List Code) := c9.2.2.2.2.2.2.2.2.2.2.2.2.2.2.2.2.2.2.2.2.2.2.2.2.2.2.2.2.1
@[irreducible] noncomputable def A₀ : Around := c9.2.2.2.2.2.2.2.2.2.2.2.2.2.2.2.2.2.2.2.2.2.2.2.2.2.2.2.2.2.1
@[irreducible] noncomputable def base : Heap := c9.2.2.2.2.2.2.2.2.2.2.2.2.2.2.2.2.2.2.2.2.2.2.2.2.2.2.2.2.2.2.1
@[irreducible] noncomputable def h₀ : Heap := c9.2.2.2.2.2.2.2.2.2.2.2.2.2.2.2.2.2.2.2.2.2.2.2.2.2.2.2.2.2.2.2.1
@[irreducible] noncomputable def L : Addr := c9.2.2.2.2.2.2.2.2.2.2.2.2.2.2.2.2.2.2.2.2.2.2.2.2.2.2.2.2.2.2.2.2.1
@[irreducible] noncomputable def u : Str → Option Value := c9.2.2.2.2.2.2.2.2.2.2.2.2.2.2.2.2.2.2.2.2.2.2.2.2.2.2.2.2.2.2.2.2.2.1
@[irreducible] noncomputable def s : Shared := c9.2.2.2.2.2.2.2.2.2.2.2.2.2.2.2.2.2.2.2.2.2.2.2.2.2.2.2.2.2.2.2.2.2.2.1
@[irreducible] noncomputable def Q : Flow → Shared → Prop := c9.2.2.2.2.2.2.2.2.2.2.2.2.2.2.2.2.2.2.2.2.2.2.2.2.2.2.2.2.2.2.2.2.2.2.2.1
@[irreducible] noncomputable def R : Result → Shared → Prop := c9.2.2.2.2.2.2.2.2.2.2.2.2.2.2.2.2.2.2.2.2.2.2.2.2.2.2.2.2.2.2.2.2.2.2.2.2
set_option maxRecDepth 100000 in
set_option maxHeartbeats 8000000 in
theorem core9 : St9 w p loose mean mg mb P x dx y dy C n1 n2 t1 t2 t3 t4 tw ts fs rest cv nc codes W dp un gd A₀ base h₀ L u s Q R := by
  unfold St9 PieGB P0
  k_fill
  intro hoff hP hi hcv hC h56 hfs LF B F hm hb X N T hG hdp hun hQ
  have hW6 : W.length ≤ 6 := by omega
  have ok := pcs_ok h56 LF.dot
  rw [drop_split lawB 9 3]
  refine execs_app _ _ ?_
  refine law_loop w p loose mean mg mb P x dx y dy C n1 n2 t1 t2 t3 t4 tw ts fs rest hoff hP (pcs W 3) ok hfs W h56 dp un gd A₀ base h₀ L u s _ R B F hm hb X N T hG (by omega) (by omega) ?_
  rintro f s2 m2 news2 ⟨rfl, D1, D2, τ, μ, m1, m2', n1', n2', qs, rest', rfl, ho, hQs, eqs, hr, eT, eM, hm2⟩ F2 N2 G2 os2
  clear F N
  dsimp only
  have okQ : PsOk 4 qs := by
    have hl : qs.length = 3 := by
      have := congrArg List.length eqs
      simpa [pcs] using this
    refine ⟨by omega, fun q hq => ?_⟩
    have hq2 : q.tx ∈ (pcs W 3).reverse.map sw := eqs ▸ List.mem_map_of_mem (f := Pc.tx) hq
    obtain ⟨t, ht, e⟩ := List.mem_map.mp hq2
    have h9 := (ok.2 t (List.mem_reverse.mp ht)).1
    have e1 : t.2 = q.a := congrArg Prod.fst e
    have e2 : t.1 = q.b := congrArg Prod.snd e
    rw [← e1, ← e2]
    exact ⟨h9.2, h9.1⟩
  rw [drop_split lawB (9 + 3) 2]
  refine execs_app _ _ ?_
  refine law_mirror w p loose mean mg mb P x dx y dy C n1' n2' t1 t2 t3 t4 tw ts qs rest' cv nc codes hi hcv (hr _ hC) hQs okQ D1 D2 _ _ W dp un gd A₀ base h₀ L _ s2 _ R B F2 hm2 hb X N2 T G2 (by omega) (by omega) ?_
  rintro f s3 m3 news3 ⟨rfl, rfl, tm, tl, hm3⟩ F3 N3 G3 os3
  clear F2 N2
  dsimp only
  rw [show flatP qs = W.reverse by rw [flat_tx, eqs]; exact flat_sw h56] at hm3
  rw [drop_split lawB (9 + 3 + 2) 1]
  refine execs_app _ _ ?_
  obtain ⟨j, t, hj, ht, ea, eb, v1, v2, v3⟩ := LF.half
  have eT' : τ.map (·.1) = (trW W).map (apT W) := eT
  have eM' : μ.map (·.1) = (trW W).map meT := eM
  obtain ⟨⟨lv, lt⟩, ej1, ej2⟩ := map_get eT' ht
  obtain ⟨⟨H, th⟩, ek1, ek2⟩ := map_get eM' ht
  have hH : H = meT t := ek2
  have hlv : lv = leastL codes := (show lv = apT W t from ej2).trans ea
  subst hH
  subst hlv
  have hlm : leastL codes ∈ τ.map (·.1) := List.mem_map.mpr ⟨_, List.mem_of_getElem? ej1, rfl⟩
  have hll : ∀ a ∈ τ.map (·.1), leastL codes ≤ a := by
    intro a h
    rw [eT'] at h
    obtain ⟨t', h1, rfl⟩ := List.mem_map.mp h
    exact LF.all t' h1
  refine law_check1 w p loose mean mg mb x dx y dy n1' n2' t1 t2 t3 t4 tw ts tm tl qs rest' D1 D2 τ m1 _ W (leastL codes) hW6 hlm hll dp un gd A₀ base h₀ L _ s3 _ R B F3 hm3 trivial X N3 T G3 (by omega) (by omega) ?_
  rintro f s4 m4 news4 ⟨rfl, rfl, hm4⟩ F4 N4 G4 os4
  clear F3 N3
  dsimp only
  rw [drop_split lawB (9 + 3 + 2 + 1) 1]
  refine execs_app _ _ ?_
  refine law_half w p loose mean mg mb tw ts tm tl D1 D2 τ μ m1 m2' W (leastL codes) j hj (meT t) th ⟨_, ej1⟩ ek1 ?_ dp un gd A₀ base h₀ L _ s4 _ R B F4 hm4 trivial X N4 T G4 (by omega) (by omega) ?_
  · intro m hmj a ta h e
    have e9 := congrArg (fun z : List Int => z[m]?) eT'
    simp only [List.getElem?_map, h, Option.map_some] at e9
    cases h5 : (trW W)[m]? with
    | none => rw [h5] at e9; cases e9
    | some t' =>
      rw [h5] at e9
      exact eb m hmj t' h5 ((Option.some.inj e9).symm.trans e)
  rintro f s5 m5 news5 ⟨rfl, rfl, hm5⟩ F5 N5 G5 os5
  clear F4 N4
  dsimp only
  rw [drop_split lawB (9 + 3 + 2 + 1 + 1) 1]
  refine execs_app _ _ ?_
  refine law_three w p loose mean mg mb th tw ts tm tl W (meT t) (leastL codes) LF.n0 LF.n1 hW6 v3 LF.ww v1 v2 dp un gd A₀ base h₀ L _ s5 _ R B F5 hm5 trivial X N5 T G5 (by omega) (by omega) ?_
  rintro f s6 m6 news6 ⟨rfl, rfl, hm6⟩ F6 N6 G6 os6
  clear F5 N5
  dsimp only
  rw [drop_split lawB (9 + 3 + 2 + 1 + 1 + 1) 1]
  refine execs_app _ _ ?_
  refine law_two w p loose mean mg mb tw ts tm tl W (leastL codes) LF.n0 LF.n1 hW6 LF.pal.mp LF.w1 LF.w0 dp un gd A₀ base h₀ L _ s6 _ R B F6 hm6 trivial X N6 T G6 (by omega) (by omega) ?_
  rintro f s7 m7 news7 ⟨rfl, rfl, hm7⟩ F7 N7 G7 os7
  clear F6 N6
  dsimp only
  rw [drop_split lawB (9 + 3 + 2 + 1 + 1 + 1 + 1) 1]
  refine execs_app _ _ ?_
  refine law_ellip w p loose mean mg mb tw ts tm tl W (leastL codes) hW6 LF.dot LF.pal dp un gd A₀ base h₀ L _ s7 _ R B F7 hm7 trivial X N7 T G7 (by omega) (by omega) ?_
  rintro f s8 m8 news8 ⟨rfl, rfl, hm8⟩ F8 N8 G8 os8
  clear F7 N7
  dsimp only
  refine law_last w p loose mean mg mb tw ts tm W hW6 LF.dot LF.k2 LF.k3 LF.k4 dp un gd A₀ base h₀ L _ s8 _ R B F8 hm8 trivial X N8 T G8 (by omega) (by omega) ?_
  rintro f s9 m9 news9 ⟨rfl, rfl⟩ F9 N9 G9 os9
  exact hQ _ _ _ _ rfl F9 N9 G9 (by rw [os9, os8, os7, os6, os5, os4, os3, os2])
set_option maxHeartbeats 4000000 in
theorem all9 (q9 : Vt9) : Sp9 q9 := by
  refine @eps_all Vt9 ne9 Sp9 ?_ q9
  have h := core9
  unfold w p loose mean mg mb P x dx y dy C n1 n2 t1 t2 t3 t4 tw ts fs rest cv nc codes W dp un gd A₀ base h₀ L u s Q R at h
  exact h
end law_rest_e
set_option maxHeartbeats 4000000 in
theorem law_rest (w : World) (p : Program) (loose : List Str) (mean : ExcName → Option Value) (mg mb : Str → Option Value) (P x dx y dy C : Addr) (n1 n2 : Nat) (t1 t2 t3 t4 tw ts : Tok) (fs : List Pc) (rest : CbLed) (hoff : OffL x dx y dy rest) (hP : HasP fs rest) (cv : List Value) (nc : Nat) (codes : List Nat) (hi : IntsAre cv (codes.map fun (c : Nat) => (c : Int))) (hcv : cv.length = 5 ∨ cv.length = 6) (hC : (C, listOf cv.toArray nc) ∈ rest) (W : List Nat) (h56 : W.length = 5 ∨ W.length = 6) (hfs : fs.map Pc.tx = pcs W 3) (LF : LawFacts codes W (leastL codes)) : PieG w p loose mean mg mb 60 (lawB.drop 9) (HbC P)
      (fun u => ∀ p ∈ [(Str.ofString "aft", Value.ref y), (Str.ofString "fore", Value.ref x), (Str.ofString "size", Value.int (W.length : Nat) ts), (Str.ofString "word", Value.str (ofL W) tw), (Str.ofString "codes", Value.ref C)], u p.1 = some p.2) (LedL w x dx y dy n1 n2 t1 t2 t3 t4 fs [] rest)
      (fun f m' news' => f = .ret (.bool true)) := by
  intro dp un gd A₀ base h₀ L u s Q R
  have h := law_rest_e.all9 (w, p, loose, mean, mg, mb, P, x, dx, y, dy, C, n1, n2, t1, t2, t3, t4, tw, ts, fs, rest, cv, nc, codes, W, dp, un, gd, A₀, base, h₀, L, u, s, Q, R)
  dsimp only [law_rest_e.Sp9, law_rest_e.St9] at h
  exact h hoff hP hi hcv hC h56 hfs LF
end Mine
end
section
open PySem PySem.W PyProof.Rows PySem.Calls PySem.Spec
namespace Mine
/-- a program of one row: nothing is told of its names -/
noncomputable def pE : Program := { main := { body := [.Import [{ name := Str.ofString "sys", asname := none, pos := default }] default], scope := lawS, futureAnnotations := false, file := Str.ofString "" }, modules := [], parses := [], absent := [] }
def looseE (p : Program) (loose : List Str) : List Str := loose ++ (List.map (fun x => x.name) (recsOf p) ++ (List.map (fun x => x.fst) (litsOf p) ++ List.map (fun x => x.name) (clssOf p loose)))
theorem pE_recs : recsOf pE = [] := rfl
theorem pE_owns : ownsOf pE = [] := rfl
theorem pE_val (x : Str) : valOf pE x = none := rfl
theorem pE_imp : importsNone pE = false := by decide +kernel
theorem top_pE {p : Program} {loose : List Str} {mean : ExcName → Option Value} {mg mb : Str → Option Value} {h : Heap} (T : Top p loose mean mg mb h) : Top pE (looseE p loose) mean mg mb h where
  g := T.g
  b := T.b
  nolimit := T.nolimit
  nodigits := T.nodigits
  fn := fun d hd => by rw [pE_recs] at hd; cases hd
  own := fun d hd => by rw [pE_owns] at hd; cases hd
  const := fun x d hd => by rw [pE_val] at hd; cases hd
  free := fun x h1 h2 _ _ _ => by
    unfold looseE at h2
    simp only [List.mem_append, not_or] at h2
    exact T.free x h1 h2.1 h2.2.1 h2.2.2.1 h2.2.2.2
  builtins := T.builtins
  tab := fun d hd => by rw [pE_recs] at hd; cases hd
  bmain := T.bmain
  seer := fun e => by rw [pE_imp] at e; cases e
theorem top_regr {loose : List Str} {mean : ExcName → Option Value} {mg mb : Str → Option Value} {h : Heap} {c P : Addr} {ps ps' : Array Value} (T : Top pE loose mean mg mb h) (B : Based h h c P ps) : Top pE loose mean mg mb (regrown h P ps') where
  g := LGe.ns_regrown B T.g
  b := LGe.ns_regrown B T.b
  nolimit := by
    obtain ⟨mc, h1, h2⟩ := T.nolimit
    exact ⟨mc, LGe.ns_regrown B h1, h2⟩
  nodigits := by
    obtain ⟨mc, h1, h2⟩ := T.nodigits
    exact ⟨mc, LGe.ns_regrown B h1, h2⟩
  fn := fun d hd => by rw [pE_recs] at hd; cases hd
  own := fun d hd => by rw [pE_owns] at hd; cases hd
  const := fun x d hd => by rw [pE_val] at hd; cases hd
  free := T.free
  builtins := T.builtins
  tab := fun d hd => by rw [pE_recs] at hd; cases hd
  bmain := by
    obtain ⟨bm, ob, h1, h2, h3, h4, h5⟩ := T.bmain
    refine ⟨bm, ob, h1, h2, regrown_other _ _ _ _ _ (Based.ne_of_cls B h3 ?_) h3, h4, h5⟩
    rw [h4]
    exact fun e => by cases e
  seer := fun e => by rw [pE_imp] at e; cases e
set_option maxRecDepth 100000 in
set_option maxHeartbeats 8000000 in
/-- the whole law -/
theorem law_body (w : World) (p : Program) (loose : List Str) (mean : ExcName → Option Value) (mg mb : Str → Option Value) (P l : Addr) (sv : List Value) (ns : List Int) (hI : IntsAre sv ns) (hlen : ns.length ≤ 63) (LF : ∀ codes : List Nat, (codes.length = 5 ∨ codes.length = 6) → (∀ c ∈ codes, c < 5) → LawFacts codes (codes.map ltr) (leastL codes))
    (dp un : Nat) (gd : Option (List Code)) (A₀ : Around) (h₀ : Heap) (L : Addr) (u : Str → Option Value) (s : Shared) (Q : Flow → Shared → Prop) (R : Result → Shared → Prop) (B : ∀ h, Below A₀ h [] h) (F : Fr h₀ L s.heap u) (hm : u (Str.ofString "script") = some (.ref l)) (hl : h₀.IsList l sv.toArray) (X : (hd.heap_39 w.params).In h₀) (T : Top p loose mean mg mb h₀) (hG : AllBare s.gens) (hC : h₀.IsCode 95 P #[]) (hT : h₀.TableAt 95 P #[]) (hPc : P ≠ cStatics) (hdp : dp + 80 < recursionLimit) (hun : un + 800 < cLine)
    (hQ : ∀ s' hR ps m', Based h₀ hR 95 P ps → Fr hR L s'.heap m' → AllBare s'.gens → s'.os = s.os → Q (.ret (.bool true)) s') :
    wpAny (model P0 w) (ktrTop dp un gd (Str.ofString "law") lawS L 141 (.ref 140) [] []) (execs lawB (envOf (Str.ofString "law") lawS L 141 (.ref 140))) Q
        (fun e s' => wpAny (model P0 w) (ktrTop dp un gd (Str.ofString "law") lawS L 141 (.ref 140) [] []) (leaving (envOf (Str.ofString "law") lawS L 141 (.ref 140)) e) (fun _ s'' => R (.error e) s'') (fun e' s'' => R (.error e') s'') s') s := by
  have TE := top_pE T
  rw [← List.drop_zero (l := lawB), drop_split lawB 0 3, List.drop_zero]
  refine execs_app _ _ ?_
  refine law_codes w pE (looseE p loose) mean mg mb l sv ns hI hlen dp un gd A₀ h₀ h₀ L u s _ R (B h₀) F (fun q hq => by rw [List.mem_singleton.mp hq]; exact hm) hl X (fun q hq => nomatch hq) TE hG (by omega) (by omega) ?_
  rintro f s1 m1 news1 ⟨rfl, C, cv, nc, codes, hm1, rfl, hi, h56, h5⟩ F1 N1 G1 os1
  clear F
  dsimp only
  have hcv : cv.length = codes.length := by have := hi.length; simpa using this
  rw [drop_split lawB (0 + 3) 2]
  refine execs_app _ _ ?_
  refine law_word w pE (looseE p loose) mean mg mb C cv nc codes hi (by omega) h5 dp un gd A₀ h₀ h₀ L _ s1 _ R (B h₀) F1 hm1 trivial X N1 TE G1 (by omega) (by omega) ?_
  rintro f s2 m2 news2 ⟨rfl, rfl, tw, ts, hm2⟩ F2 N2 G2 os2
  clear F1 N1
  dsimp only
  have LF' := LF codes h56 h5
  have hW : (codes.map ltr).length = codes.length := List.length_map ..
  rw [← hW] at hm2 h56
  generalize codes.map ltr = W at hm2 h56 LF' hW
  rw [drop_split lawB (0 + 3 + 2) 3]
  refine execs_app _ _ ?_
  refine law_push w pE (looseE p loose) mean mg mb C _ W h56 tw ts dp un gd A₀ h₀ h₀ L _ s2 _ R (B h₀) F2 hm2 trivial X N2 TE G2 (by omega) (by omega) ?_
  rintro f s3 m3 news3 ⟨rfl, x, dx, y, dy, n1, n2, t1, t2, t3, t4, fs, rest, rfl, hoff, hP, hfs, hCr, hm3⟩ F3 N3 G3 os3
  clear F2 N2
  dsimp only
  have hfl : flatP fs = W := by rw [flat_tx, hfs]; exact flat_pcs h56
  have hpo := pcs_ok h56 LF'.dot
  have hfl2 : fs.length = 3 := by have := congrArg List.length hfs; simpa [pcs] using this
  have hlen2 : ∀ q ∈ fs, q.a.length ≤ 100 ∧ q.b.length ≤ 100 := by
    intro q hq
    have h9 := (hpo.2 q.tx (hfs ▸ List.mem_map_of_mem (f := Pc.tx) hq)).1
    have e1 : q.tx.1 = q.a := rfl
    have e2 : q.tx.2 = q.b := rfl
    rw [e1, e2] at h9
    omega
  rw [drop_split lawB (0 + 3 + 2 + 3) 1]
  refine execs_app _ _ ?_
  refine law_str1 w pE (looseE p loose) mean mg mb P x dx y dy n1 n2 t1 t2 t3 t4 fs rest W tw hP hlen2 hfl (by omega) (by omega) dp un gd A₀ h₀ h₀ L _ s3 _ R (B h₀) F3 (fun q hq => by
    simp only [List.mem_cons, List.not_mem_nil, or_false] at hq
    rcases hq with rfl | rfl <;> exact hm3 _ (by simp)) X N3 TE G3 hC hT hPc (by omega) (by omega) ?_
  intro c' s4 hR eR BR F4 N4 G4 os4
  clear F3 N3
  dsimp only
  have BS := Based.start hC hT hPc
  have XR : (hd.heap_39 w.params).In hR := by rw [eR]; exact kb_in_regrown BS X T.g (by kernel_rfl)
  have TR : Top pE (looseE p loose) mean mg mb hR := by rw [eR]; exact top_regr TE BS
  have HR : HbC P hR := ⟨hPc, _, .ref c', BR.code, BR.tab, by with_unfolding_all rfl⟩
  refine law_rest w pE (looseE p loose) mean mg mb P x dx y dy C n1 n2 t1 t2 t3 t4 tw ts fs rest hoff hP cv nc codes hi (by omega) hCr W h56 hfs LF' dp un gd A₀ hR hR L _ s4 _ R (B hR) F4 hm3 HR XR N4 TR G4 (by omega) (by omega) ?_
  rintro f s5 m5 news5 rfl F5 N5 G5 os5
  exact hQ s5 hR _ _ BR F5 G5 (by rw [os5, os4, os3, os2, os1])
end Mine
end
section
namespace Mine
/-- what a cost of putting one sign for another must be -/
structure Cost (g : Nat → Nat → Nat) : Prop where
  zero : ∀ a, g a a = 0
  sym : ∀ a b, g a b = g b a
  two : ∀ a b, g a b ≤ 2
  eq : ∀ a b, g a b = 0 → a = b
  tri : ∀ a b c, g a c ≤ g a b + g b c
inductive Al (g : Nat → Nat → Nat) : List Nat → List Nat → Nat → Prop
  | nil : Al g [] [] 0
  | del {x y : List Nat} {k : Nat} (a : Nat) : Al g x y k → Al g (a :: x) y (k + 2)
  | ins {x y : List Nat} {k : Nat} (b : Nat) : Al g x y k → Al g x (b :: y) (k + 2)
  | sub {x y : List Nat} {k : Nat} (a b : Nat) : Al g x y k → Al g (a :: x) (b :: y) (k + g a b)
def ed (g : Nat → Nat → Nat) : List Nat → List Nat → Nat
  | [], y => 2 * y.length
  | _ :: x, [] => 2 * (x.length + 1)
  | a :: x, b :: y => min (min (ed g x (b :: y)) (ed g (a :: x) y) + 2) (ed g x y + g a b)
termination_by x y => x.length + y.length
variable {g : Nat → Nat → Nat}
theorem ed_nilL (y : List Nat) : ed g [] y = 2 * y.length := by rw [ed]
theorem ed_nilR (x : List Nat) : ed g x [] = 2 * x.length := by cases x <;> simp [ed]
theorem ed_cc (a b : Nat) (x y : List Nat) : ed g (a :: x) (b :: y) = min (min (ed g x (b :: y)) (ed g (a :: x) y) + 2) (ed g x y + g a b) := by rw [ed]
theorem ed_del (a : Nat) (x y : List Nat) : ed g (a :: x) y ≤ ed g x y + 2 := by
  cases y with
  | nil => rw [ed_nilR, ed_nilR, List.length_cons]; exact Nat.le_of_eq (Nat.mul_succ _ _)
  | cons b y => rw [ed_cc]; exact Nat.le_trans (Nat.min_le_left _ _) (Nat.add_le_add_right (Nat.min_le_left _ _) 2)
theorem ed_ins (b : Nat) (x y : List Nat) : ed g x (b :: y) ≤ ed g x y + 2 := by
  cases x with
  | nil => rw [ed_nilL, ed_nilL, List.length_cons]; exact Nat.le_of_eq (Nat.mul_succ _ _)
  | cons a x => rw [ed_cc]; exact Nat.le_trans (Nat.min_le_left _ _) (Nat.add_le_add_right (Nat.min_le_right _ _) 2)
theorem ed_sb (a b : Nat) (x y : List Nat) : ed g (a :: x) (b :: y) ≤ ed g x y + g a b := by
  rw [ed_cc]; exact Nat.min_le_right _ _
theorem ed_ge {a b k : Nat} {x y : List Nat} (h1 : k ≤ ed g x (b :: y) + 2) (h2 : k ≤ ed g (a :: x) y + 2) (h3 : k ≤ ed g x y + g a b) : k ≤ ed g (a :: x) (b :: y) := by
  rw [ed_cc, ← Nat.add_min_add_right]
  exact Nat.le_min.mpr ⟨Nat.le_min.mpr ⟨h1, h2⟩, h3⟩
theorem q1 {p q r n : Nat} (h : p + 1 + q + r ≤ n + 1) : p + q + r ≤ n := by first | (grind) | omega
theorem q2 {p q r n : Nat} (h : p + (q + 1) + r ≤ n + 1) : p + q + r ≤ n := by first | (grind) | omega
theorem q3 {p q r n : Nat} (h : p + q + (r + 1) ≤ n + 1) : p + q + r ≤ n := by first | (grind) | omega
theorem q5 {x u k m : Nat} (h1 : x ≤ u + 2) (h2 : u ≤ k + m) : x ≤ k + 2 + m := by first | (grind) | omega
theorem q6 {x u k m : Nat} (h1 : x ≤ u + 2) (h2 : u ≤ k + m) : x ≤ k + (m + 2) := by first | (grind) | omega
theorem q7 {p q n : Nat} (h : p ≤ n) (_ : q = p + 1 ∨ q = p + 2 ∨ q = p) : p ≤ n := h
theorem al_ed {x y : List Nat} {k : Nat} (h : Al g x y k) : ed g x y ≤ k := by
  induction h with
  | nil => rw [ed_nilL]; simp
  | del a _ ih => exact Nat.le_trans (ed_del a _ _) (Nat.add_le_add_right ih 2)
  | ins b _ ih => exact Nat.le_trans (ed_ins b _ _) (Nat.add_le_add_right ih 2)
  | sub a b _ ih => exact Nat.le_trans (ed_sb a b _ _) (Nat.add_le_add_right ih _)
theorem al_insAll : ∀ (y : List Nat), Al g [] y (2 * y.length)
  | [] => .nil
  | b :: y => by have := al_insAll y; rw [List.length_cons, Nat.mul_succ]; exact .ins b this
theorem al_delAll : ∀ (y : List Nat), Al g y [] (2 * y.length)
  | [] => .nil
  | b :: y => by have := al_delAll y; rw [List.length_cons, Nat.mul_succ]; exact .del b this
theorem min_cases (a b : Nat) : min a b = a ∨ min a b = b := (Nat.le_total a b).elim (fun h => .inl (Nat.min_eq_left h)) (fun h => .inr (Nat.min_eq_right h))
theorem ed_al : ∀ (x y : List Nat), Al g x y (ed g x y)
  | [], y => by rw [ed_nilL]; exact al_insAll y
  | a :: x, [] => by rw [ed_nilR]; exact al_delAll _
  | a :: x, b :: y => by
    have h1 := ed_al x (b :: y)
    have h2 := ed_al (a :: x) y
    have h3 := ed_al x y
    rw [ed_cc]
    rcases min_cases (min (ed g x (b :: y)) (ed g (a :: x) y) + 2) (ed g x y + g a b) with e | e
    · rw [e]
      rcases min_cases (ed g x (b :: y)) (ed g (a :: x) y) with e | e
      · rw [e]; exact .del a h1
      · rw [e]; exact .ins b h2
    · rw [e]; exact .sub a b h3
termination_by x y => x.length + y.length
theorem al_app {x y x' y' : List Nat} {k k' : Nat} (h : Al g x y k) (h' : Al g x' y' k') : Al g (x ++ x') (y ++ y') (k + k') := by
  induction h with
  | nil => simpa using h'
  | del a _ ih => have := Al.del a ih; rw [show ∀ k : Nat, k + 2 + k' = k + k' + 2 by intro k; first | (grind) | omega]; exact this
  | ins a _ ih => have := Al.ins a ih; rw [show ∀ k : Nat, k + 2 + k' = k + k' + 2 by intro k; first | (grind) | omega]; exact this
  | sub a b _ ih => have := Al.sub a b ih; rw [show ∀ k : Nat, k + g a b + k' = k + k' + g a b by intro k; first | (grind) | omega]; exact this
theorem al_one (a b : Nat) : Al g [a] [b] (g a b) := by have := Al.sub (g := g) a b .nil; simpa using this
theorem al_rev {x y : List Nat} {k : Nat} (h : Al g x y k) : Al g x.reverse y.reverse k := by
  induction h with
  | nil => exact .nil
  | del a _ ih => have := al_app ih (Al.del (g := g) a .nil); simpa using this
  | ins a _ ih => have := al_app ih (Al.ins (g := g) a .nil); simpa using this
  | sub a b _ ih => have := al_app ih (al_one (g := g) a b); simpa using this
theorem ed_rev (x y : List Nat) : ed g x.reverse y.reverse = ed g x y := by
  have h1 := al_ed (al_rev (ed_al (g := g) x y))
  have h2 := al_ed (al_rev (ed_al (g := g) x.reverse y.reverse))
  rw [List.reverse_reverse, List.reverse_reverse] at h2
  first | (grind) | omega
theorem al_sym (c : Cost g) {x y : List Nat} {k : Nat} (h : Al g x y k) : Al g y x k := by
  induction h with
  | nil => exact .nil
  | del a _ ih => exact .ins a ih
  | ins a _ ih => exact .del a ih
  | sub a b _ ih => rw [c.sym]; exact .sub b a ih
theorem ed_sym (c : Cost g) (x y : List Nat) : ed g x y = ed g y x :=
  Nat.le_antisymm (al_ed (al_sym c (ed_al y x))) (al_ed (al_sym c (ed_al x y)))
theorem al_refl (c : Cost g) : ∀ x : List Nat, Al g x x 0
  | [] => .nil
  | a :: x => by have := Al.sub a a (al_refl c x); rw [c.zero] at this; exact this
theorem al_eq (c : Cost g) {x y : List Nat} {k : Nat} (h : Al g x y k) (hk : k = 0) : x = y := by
  induction h with
  | nil => rfl
  | del a _ ih => first | (grind) | omega
  | ins a _ ih => first | (grind) | omega
  | sub a b _ ih => rw [ih (by first | (grind) | omega), c.eq a b (by first | (grind) | omega)]
theorem ed_self (c : Cost g) (x : List Nat) : ed g x x = 0 := Nat.le_zero.mp (al_ed (al_refl c x))
theorem ed_zero (c : Cost g) {x y : List Nat} (h : ed g x y = 0) : x = y := al_eq c (ed_al x y) h
theorem al_tri (c : Cost g) : ∀ (n : Nat) (x y z : List Nat), x.length + y.length + z.length ≤ n → ∀ k m, Al g x y k → Al g y z m → ed g x z ≤ k + m
  | 0, x, y, z, hn, k, m, h1, h2 => by
    have e1 : x = [] := List.length_eq_zero_iff.mp (by first | (grind) | omega)
    have e2 : z = [] := List.length_eq_zero_iff.mp (by first | (grind) | omega)
    subst e1 e2
    rw [ed_nilL]; exact Nat.zero_le _
  | n + 1, x, y, z, hn, k, m, h1, h2 => by
    cases h1 with
    | nil => exact Nat.le_trans (al_ed h2) (Nat.le_add_left _ _)
    | @del x' _ k' a h => exact q5 (ed_del a x' z) (al_tri c n _ y z (q1 hn) _ _ h h2)
    | @ins _ y' k' b h =>
      cases h2 with
      | @del _ _ m' _ h' =>
        have e := al_tri c n _ _ z (q2 hn) _ _ h h'
        exact Nat.le_trans e (Nat.add_le_add (Nat.le_add_right _ _) (Nat.le_add_right _ _))
      | @ins _ z' m' d h' => exact q6 (ed_ins d x z') (al_tri c n _ _ z' (q3 hn) _ _ (.ins b h) h')
      | @sub _ z' m' _ d h' =>
        have e := al_tri c n _ _ z' (q2 (Nat.le_trans (Nat.le_succ _) hn)) _ _ h h'
        exact Nat.le_trans (q5 (ed_ins d x z') e) (Nat.add_le_add_left (Nat.le_add_right _ _) _)
    | @sub x' y' k' a b h =>
      cases h2 with
      | @del _ _ m' _ h' =>
        have e := al_tri c n _ _ z (q2 (n := n) (Nat.le_trans (Nat.add_le_add_right (Nat.add_le_add_right (Nat.le_succ _) _) _) hn)) _ _ h h'
        exact Nat.le_trans (q6 (ed_del a x' z) e) (Nat.add_le_add_right (Nat.le_add_right _ _) _)
      | @ins _ z' m' d h' => exact q6 (ed_ins d (a :: x') z') (al_tri c n _ _ z' (q3 hn) _ _ (.sub a b h) h')
      | @sub _ z' m' _ d h' =>
        have e := al_tri c n _ _ z' (q2 (n := n) (Nat.le_trans (Nat.add_le_add (Nat.add_le_add_right (Nat.le_succ _) _) (Nat.le_succ _)) hn)) _ _ h h'
        refine Nat.le_trans (ed_sb a d x' z') (Nat.le_trans (Nat.add_le_add e (c.tri a b d)) ?_)
        exact Nat.le_of_eq (Nat.add_add_add_comm _ _ _ _)
theorem ed_tri (c : Cost g) (x y z : List Nat) : ed g x z ≤ ed g x y + ed g y z := al_tri c _ x y z (Nat.le_refl _) _ _ (ed_al x y) (ed_al y z)
theorem ed_up (c : Cost g) (a : Nat) (x y : List Nat) : ed g x y ≤ ed g x (a :: y) + 2 := by
  have h := ed_tri c x (a :: y) y
  have h2 := ed_del (g := g) a y y
  rw [ed_self c] at h2
  exact Nat.le_trans h (Nat.add_le_add_left h2 _)
theorem ed_cons (c : Cost g) (a : Nat) (x y : List Nat) : ed g (a :: x) (a :: y) = ed g x y := by
  apply Nat.le_antisymm
  · have := ed_sb (g := g) a a x y
    rw [c.zero] at this
    exact this
  · refine ed_ge (ed_up c a x y) ?_ (Nat.le_add_right _ _)
    rw [ed_sym c x y, ed_sym c (a :: x) y]
    exact ed_up c a y x
theorem ed_pre (c : Cost g) : ∀ (p x y : List Nat), ed g (p ++ x) (p ++ y) = ed g x y
  | [], _, _ => rfl
  | a :: p, x, y => by rw [List.cons_append, List.cons_append, ed_cons c, ed_pre c p]
theorem ed_post (c : Cost g) (s x y : List Nat) : ed g (x ++ s) (y ++ s) = ed g x y := by
  rw [← ed_rev, List.reverse_append, List.reverse_append, ed_pre c, ed_rev]
theorem al_len {x y : List Nat} {k : Nat} (c : Cost g) (h : Al g x y k) : 2 * y.length ≤ k + 2 * x.length ∧ (2 * y.length = k + 2 * x.length → x.Sublist y) := by
  induction h with
  | nil => simp
  | del a _ ih => simp only [List.length_cons]; exact ⟨by first | (grind) | omega, fun e => by first | (grind) | omega⟩
  | ins b _ ih => simp only [List.length_cons]; exact ⟨by first | (grind) | omega, fun e => .cons _ (ih.2 (by first | (grind) | omega))⟩
  | sub a b _ ih =>
    simp only [List.length_cons]
    refine ⟨by first | (grind) | omega, fun e => ?_⟩
    have := c.eq a b (by first | (grind) | omega)
    subst this
    exact .cons_cons _ (ih.2 (by first | (grind) | omega))
theorem al_subl (c : Cost g) {x y : List Nat} (h : x.Sublist y) : ∃ k, Al g x y k ∧ k + 2 * x.length = 2 * y.length := by
  induction h with
  | slnil => exact ⟨0, .nil, by simp⟩
  | cons a _ ih => obtain ⟨k, h, e⟩ := ih; exact ⟨k + 2, .ins a h, by simp only [List.length_cons]; first | (grind) | omega⟩
  | cons_cons a _ ih => obtain ⟨k, h, e⟩ := ih; exact ⟨k + g a a, .sub a a h, by rw [c.zero]; simp only [List.length_cons]; first | (grind) | omega⟩
theorem ed_len (c : Cost g) (x y : List Nat) : 2 * y.length ≤ ed g x y + 2 * x.length := (al_len c (ed_al x y)).1
theorem ed_subl (c : Cost g) (x y : List Nat) : x.Sublist y ↔ ed g x y + 2 * x.length = 2 * y.length := by
  constructor
  · intro h
    obtain ⟨k, hk, e⟩ := al_subl c h
    have := al_ed hk
    have := ed_len c x y
    first | (grind) | omega
  · intro h
    exact (al_len c (ed_al x y)).2 h.symm
theorem ed_le : ∀ (x y : List Nat), ed g x y ≤ 2 * (x.length + y.length)
  | [], y => by rw [ed_nilL]; simp
  | a :: x, y => by have := ed_le x y; have := ed_del (g := g) a x y; simp only [List.length_cons]; first | (grind) | omega
/-- any way crosses a line -/
theorem al_cross {x z : List Nat} {k : Nat} (h : Al g x z k) : ∀ (y y' : List Nat), z = y ++ y' → ∃ x1 x2, x = x1 ++ x2 ∧ ed g x2 y' ≤ k := by
  induction h with
  | nil => intro y y' e; exact ⟨[], [], rfl, by have := (List.append_eq_nil_iff.mp e.symm).2; subst this; rw [ed_nilL]; simp⟩
  | del a _ ih =>
    intro y y' e
    obtain ⟨x1, x2, e1, e2⟩ := ih y y' e
    exact ⟨a :: x1, x2, by rw [e1]; rfl, by first | (grind) | omega⟩
  | ins b h ih =>
    intro y y' e
    cases y with
    | nil => refine ⟨[], _, rfl, ?_⟩; rw [List.nil_append] at e; rw [← e]; exact al_ed (.ins b h)
    | cons d y =>
      rw [List.cons_append] at e
      injection e with _ e
      obtain ⟨x1, x2, e1, e2⟩ := ih y y' e
      exact ⟨x1, x2, e1, by first | (grind) | omega⟩
  | sub a b h ih =>
    intro y y' e
    cases y with
    | nil => refine ⟨[], _, rfl, ?_⟩; rw [List.nil_append] at e; rw [← e]; exact al_ed (.sub a b h)
    | cons d y =>
      rw [List.cons_append] at e
      injection e with _ e
      obtain ⟨x1, x2, e1, e2⟩ := ih y y' e
      exact ⟨a :: x1, x2, by rw [e1]; rfl, by first | (grind) | omega⟩
/-- any way passes the middle -/
theorem al_split {x y : List Nat} {k : Nat} (h : Al g x y k) : ∀ s, s ≤ x.length + y.length →
    (∃ x1 x2 y1 y2, x = x1 ++ x2 ∧ y = y1 ++ y2 ∧ x1.length + y1.length = s ∧ ed g x1 y1 + ed g x2 y2 ≤ k) ∨
    (∃ x1 a x2 y1 b y2, x = x1 ++ a :: x2 ∧ y = y1 ++ b :: y2 ∧ x1.length + y1.length + 1 = s ∧ ed g x1 y1 + ed g x2 y2 ≤ k) := by
  induction h with
  | nil => intro s hs; exact .inl ⟨[], [], [], [], rfl, rfl, by simp at hs ⊢; first | (grind) | omega, by rw [ed_nilL]; simp⟩
  | @del x y k a h ih =>
    intro s hs
    cases s with
    | zero => exact .inl ⟨[], _, [], _, rfl, rfl, rfl, by rw [ed_nilL]; have := al_ed (.del a h); simp; first | (grind) | omega⟩
    | succ s =>
      rcases ih s (by simp only [List.length_cons] at hs; first | (grind) | omega) with ⟨x1, x2, y1, y2, e1, e2, e3, e4⟩ | ⟨x1, d, x2, y1, b, y2, e1, e2, e3, e4⟩
      · exact .inl ⟨a :: x1, x2, y1, y2, by rw [e1]; rfl, e2, by simp only [List.length_cons]; first | (grind) | omega, by have := ed_del (g := g) a x1 y1; first | (grind) | omega⟩
      · exact .inr ⟨a :: x1, d, x2, y1, b, y2, by rw [e1]; rfl, e2, by simp only [List.length_cons]; first | (grind) | omega, by have := ed_del (g := g) a x1 y1; first | (grind) | omega⟩
  | @ins x y k a h ih =>
    intro s hs
    cases s with
    | zero => exact .inl ⟨[], _, [], _, rfl, rfl, rfl, by rw [ed_nilL]; have := al_ed (.ins a h); simp; first | (grind) | omega⟩
    | succ s =>
      rcases ih s (by simp only [List.length_cons] at hs; first | (grind) | omega) with ⟨x1, x2, y1, y2, e1, e2, e3, e4⟩ | ⟨x1, d, x2, y1, b, y2, e1, e2, e3, e4⟩
      · exact .inl ⟨x1, x2, a :: y1, y2, e1, by rw [e2]; rfl, by simp only [List.length_cons]; first | (grind) | omega, by have := ed_ins (g := g) a x1 y1; first | (grind) | omega⟩
      · exact .inr ⟨x1, d, x2, a :: y1, b, y2, e1, by rw [e2]; rfl, by simp only [List.length_cons]; first | (grind) | omega, by have := ed_ins (g := g) a x1 y1; first | (grind) | omega⟩
  | @sub x y k a b h ih =>
    intro s hs
    match s, hs with
    | 0, _ => exact .inl ⟨[], _, [], _, rfl, rfl, rfl, by rw [ed_nilL]; have := al_ed (.sub a b h); simp; first | (grind) | omega⟩
    | 1, _ => exact .inr ⟨[], a, x, [], b, y, rfl, rfl, rfl, by rw [ed_nilL]; have := al_ed h; simp; first | (grind) | omega⟩
    | s + 2, hs =>
      rcases ih s (by simp only [List.length_cons] at hs; first | (grind) | omega) with ⟨x1, x2, y1, y2, e1, e2, e3, e4⟩ | ⟨x1, d, x2, y1, f, y2, e1, e2, e3, e4⟩
      · exact .inl ⟨a :: x1, x2, b :: y1, y2, by rw [e1]; rfl, by rw [e2]; rfl, by simp only [List.length_cons]; first | (grind) | omega, by rw [ed_cc]; first | (grind) | omega⟩
      · exact .inr ⟨a :: x1, d, x2, b :: y1, f, y2, by rw [e1]; rfl, by rw [e2]; rfl, by simp only [List.length_cons]; first | (grind) | omega, by rw [ed_cc]; first | (grind) | omega⟩
end Mine
end
section
open PySem PySem.W
namespace Mine
theorem scN_def (c d : Nat) : scN c d = if c = d then 0 else if Txt.lower (ofL [c]) = Txt.lower (ofL [d]) then 1 else 2 := by
  unfold scN sc
  rw [ofL_beq]
  by_cases h : c = d
  · subst h; simp
  · rw [if_neg (by simpa using h), if_neg h]
    by_cases h2 : Txt.lower (ofL [c]) = Txt.lower (ofL [d])
    · rw [if_pos h2, if_pos (by rw [h2]; exact beq_self_eq_true _)]
    · rw [if_neg h2, if_neg (by rw [beq_iff_eq]; exact h2)]
def gN (c d : Nat) : Nat := if c = d then 0 else if Txt.lower (ofL [c]) = Txt.lower (ofL [d]) then 1 else 2
theorem gN_sc (c d : Nat) : scN c d = (gN c d : Int) := by
  rw [scN_def]; unfold gN
  split
  · rfl
  · split <;> rfl
theorem costN : Cost gN where
  zero := fun a => by simp [gN]
  sym := fun a b => by unfold gN; simp only [@eq_comm _ a b, @eq_comm _ (Txt.lower (ofL [a])) (Txt.lower (ofL [b]))]
  two := fun a b => by unfold gN; split <;> (try split) <;> first | (grind) | omega
  eq := fun a b h => by
    unfold gN at h
    split at h
    · assumption
    · split at h <;> first | (grind) | omega
  tri := fun a b c => by
    unfold gN
    by_cases h1 : a = b
    · subst h1
      simp
    · by_cases h2 : b = c
      · subst h2
        simp
      · by_cases h3 : a = c
        · simp [h3]
        · rw [if_neg h1, if_neg h2, if_neg h3]
          by_cases e1 : Txt.lower (ofL [a]) = Txt.lower (ofL [b])
          · by_cases e2 : Txt.lower (ofL [b]) = Txt.lower (ofL [c])
            · rw [if_pos e1, if_pos e2, if_pos (e1.trans e2)]; first | (grind) | omega
            · rw [if_neg e2]; split <;> first | (grind) | omega
          · rw [if_neg e1]; split <;> split <;> first | (grind) | omega
abbrev edN := ed gN
theorem pmin_eq (a b : Int) : pmin a b = min a b := by unfold pmin; split <;> first | (grind) | omega
/-- a row of the table: the costs of the beginnings -/
def rowE : List Nat → List Nat → List Nat → List Int
  | _, [], _ => []
  | q, a :: as, p => (edN (a :: q) p : Int) :: rowE (a :: q) as p
theorem mem_rowE : ∀ (as : List Nat) (q p : List Nat) (e : Int), e ∈ rowE q as p ↔ ∃ u v, as = u ++ v ∧ u ≠ [] ∧ e = (edN (u.reverse ++ q) p : Int)
  | [], q, p, e => by
    simp only [rowE, List.not_mem_nil, false_iff]
    rintro ⟨u, v, h1, h2, _⟩
    exact h2 (List.append_eq_nil_iff.mp h1.symm).1
  | a :: as, q, p, e => by
    simp only [rowE, List.mem_cons]
    rw [mem_rowE as (a :: q) p e]
    constructor
    · rintro (rfl | ⟨u, v, h1, h2, h3⟩)
      · exact ⟨[a], as, rfl, by simp, by simp⟩
      · exact ⟨a :: u, v, by rw [h1]; rfl, by simp, by rw [h3]; simp⟩
    · rintro ⟨u, v, h1, h2, h3⟩
      cases u with
      | nil => exact absurd rfl h2
      | cons b u =>
        rw [List.cons_append] at h1
        injection h1 with e1 e2
        subst e1
        cases u with
        | nil => exact .inl (by rw [h3]; simp)
        | cons d u => exact .inr ⟨d :: u, v, e2, by simp, by rw [h3]; simp⟩
theorem inner_spec (c : Nat) (mx : Int) : ∀ (as q p : List Nat) (d res mn : Int), d = (edN q p : Int) → (res = (edN q (c :: p) : Int) ∨ (q = [] ∧ res = 2 * (p.length : Int))) →
    (inner c as (rowE q as p) d res mn).1 = rowE q as (c :: p) ∧ (as ≠ [] → (inner c as (rowE q as p) d res mn).2.1 = (edN (as.reverse ++ q) (c :: p) : Int)) ∧ (mx < (inner c as (rowE q as p) d res mn).2.2 ↔ mx < mn ∧ ∀ e ∈ rowE q as (c :: p), mx < e)
  | [], q, p, d, res, mn, hd, hr => by simp [inner, rowE]
  | a :: as, q, p, d, res, mn, hd, hr => by
    have hx : pmin (pmin res (edN (a :: q) p : Int) + 2) (d + scN c a) = (edN (a :: q) (c :: p) : Int) := by
      have e := ed_cc (g := gN) a c q p
      have t := costN.two a c
      rw [pmin_eq, pmin_eq, gN_sc, hd, costN.sym c a]
      rcases hr with rfl | ⟨rfl, rfl⟩
      · show min (min ((ed gN q (c :: p) : Nat) : Int) ((ed gN (a :: q) p : Nat) : Int) + 2) (((ed gN q p : Nat) : Int) + ((gN a c : Nat) : Int)) = ((ed gN (a :: q) (c :: p) : Nat) : Int)
        first | (grind) | omega
      · have e1 := ed_nilL (g := gN) (c :: p)
        have e2 := ed_nilL (g := gN) p
        rw [List.length_cons] at e1
        show min (min (2 * (p.length : Int)) ((ed gN [a] p : Nat) : Int) + 2) (((ed gN [] p : Nat) : Int) + ((gN a c : Nat) : Int)) = ((ed gN [a] (c :: p) : Nat) : Int)
        first | (grind) | omega
    have ih := inner_spec c mx as (a :: q) p (edN (a :: q) p) (edN (a :: q) (c :: p)) (if (edN (a :: q) (c :: p) : Int) < mn then (edN (a :: q) (c :: p) : Int) else mn) rfl (.inl rfl)
    simp only [inner, rowE, hx]
    refine ⟨by rw [ih.1], ?_, ?_⟩
    · intro _
      cases as with
      | nil => simp [inner]
      | cons b as => rw [ih.2.1 (by simp)]; simp
    · rw [ih.2.2]
      simp only [List.mem_cons, forall_eq_or_imp]
      constructor
      · rintro ⟨h1, h2⟩
        split at h1
        · exact ⟨by first | (grind) | omega, h1, h2⟩
        · exact ⟨h1, by first | (grind) | omega, h2⟩
      · rintro ⟨h1, h2, h3⟩
        refine ⟨?_, h3⟩
        split <;> assumption
/-- what is told within a bound -/
def Told (mx : Int) (D : Nat) (v : Int) : Prop := ((D : Int) ≤ mx → v = D) ∧ (mx < (D : Int) → v = D ∨ v = mx + 1)
theorem outer_spec (mx : Int) (as : List Nat) (has : as ≠ []) : ∀ (bs p : List Nat) (res : Int), (bs = [] → res = (edN as.reverse p : Int)) → Told mx (edN as.reverse (bs.reverse ++ p)) (outer as mx bs (p.length : Int) (rowE [] as p) res)
  | [], p, res, hr => by
    have e := hr rfl
    subst e
    exact ⟨fun _ => rfl, fun _ => .inl rfl⟩
  | c :: bs, p, res, _ => by
    have hs := inner_spec c mx as [] p ((p.length : Int) * 2) ((p.length : Int) * 2) 9223372036854775807 (by show _ = ((ed gN [] p : Nat) : Int); rw [ed_nilL]; first | (grind) | omega) (.inr ⟨rfl, by first | (grind) | omega⟩)
    rw [outer]
    simp only [hs.1]
    split
    · rename_i hlt
      have hm := (hs.2.2.mp hlt).2
      refine ⟨fun hle => ?_, fun _ => .inr rfl⟩
      exfalso
      have hal := ed_al (g := gN) as.reverse ((c :: bs).reverse ++ p)
      obtain ⟨x1, x2, e1, e2⟩ := al_cross hal bs.reverse (c :: p) (by simp)
      have key : ∃ e ∈ rowE [] as (c :: p), e ≤ (edN x2 (c :: p) : Int) := by
        cases x2 with
        | nil =>
          cases as with
          | nil => exact absurd rfl has
          | cons a as =>
            refine ⟨(edN [a] (c :: p) : Int), by simp [rowE], ?_⟩
            have t := costN.two a c
            have e3 := ed_cc (g := gN) a c [] p
            have e4 := ed_nilL (g := gN) (c :: p)
            have e5 := ed_nilL (g := gN) p
            rw [List.length_cons] at e4
            show ((ed gN [a] (c :: p) : Nat) : Int) ≤ ((ed gN [] (c :: p) : Nat) : Int)
            first | (grind) | omega
        | cons y x2 =>
          refine ⟨_, (mem_rowE as [] (c :: p) _).mpr ⟨(y :: x2).reverse, x1.reverse, ?_, by simp, rfl⟩, ?_⟩
          · rw [← List.reverse_append, ← e1, List.reverse_reverse]
          · rw [List.reverse_reverse, List.append_nil]; exact Int.le_refl _
      obtain ⟨e, he, hle2⟩ := key
      have h1 := hm e he
      have h2 : ((ed gN x2 (c :: p) : Nat) : Int) ≤ ((ed gN as.reverse ((c :: bs).reverse ++ p) : Nat) : Int) := by first | (grind) | omega
      have h3 : (e : Int) ≤ ((ed gN x2 (c :: p) : Nat) : Int) := hle2
      have h4 : ((ed gN as.reverse ((c :: bs).reverse ++ p) : Nat) : Int) ≤ mx := hle
      first | (grind) | omega
    · have ih := outer_spec mx as has bs (c :: p) (inner c as (rowE [] as p) ((p.length : Int) * 2) ((p.length : Int) * 2) 9223372036854775807).2.1 (fun _ => by rw [hs.2.1 has, List.append_nil])
      have e1 : (c :: bs).reverse ++ p = bs.reverse ++ c :: p := by simp
      have e2 : ((p.length : Int) + 1) = ((c :: p).length : Int) := by simp
      rw [e1, e2]
      exact ih
theorem row0_eq : ∀ (as q : List Nat), rowE q as [] = (List.range as.length).map fun (i : Nat) => 2 * (q.length : Int) + 2 + (i : Int) * 2
  | [], _ => rfl
  | a :: as, q => by
    rw [rowE, row0_eq as (a :: q), show (a :: as).length = as.length + 1 from rfl, List.range_succ_eq_map, List.map_cons, List.map_map, edN, ed_nilR]
    congr 1
    apply List.map_congr_left
    intro i _
    simp only [List.length_cons, Function.comp_apply]
    first | (grind) | omega
theorem core2_spec (mx : Int) (a b : List Nat) (ha : a ≠ []) (hb : b ≠ []) (hab : a.length ≤ b.length) : Told mx (edN a.reverse b.reverse) (core2 a b mx) := by
  unfold core2
  split
  · rename_i h
    have h1 := ed_len costN a.reverse b.reverse
    rw [List.length_reverse, List.length_reverse] at h1
    refine ⟨fun hle => ?_, fun _ => .inr rfl⟩
    have hle' : ((ed gN a.reverse b.reverse : Nat) : Int) ≤ mx := hle
    first | (grind) | omega
  · have h := outer_spec mx a ha b [] 0 (fun e => absurd e hb)
    rw [row0_eq] at h
    simpa [row0] using h
theorem core_spec (mx : Int) (a b : List Nat) : Told mx (edN a.reverse b.reverse) (core a b mx) := by
  unfold core
  split
  · rename_i h
    have e : (edN a.reverse b.reverse : Int) = 2 * ((a.length : Int) + b.length) := by
      rcases h with rfl | rfl
      · rw [List.reverse_nil, edN, ed_nilL, List.length_reverse]; simp
      · rw [List.reverse_nil, edN, ed_nilR, List.length_reverse]; simp
    rw [← e]
    exact ⟨fun _ => rfl, fun _ => .inl rfl⟩
  · rename_i h
    have ha : a ≠ [] := fun e => h (.inl e)
    have hb : b ≠ [] := fun e => h (.inr e)
    split
    · rw [edN, ed_sym costN]
      exact core2_spec mx b a hb ha (by first | (grind) | omega)
    · exact core2_spec mx a b ha hb (by first | (grind) | omega)
theorem pre_split : ∀ (x y : List Nat), x.take (preN x y) = y.take (preN x y)
  | [], _ => by simp [preN]
  | _ :: _, [] => by simp [preN]
  | a :: x, b :: y => by
    simp only [preN]
    split
    · rename_i h
      subst h
      rw [List.take_succ_cons, List.take_succ_cons, pre_split x y]
    · simp
theorem cut_split (a b : List Nat) : ∃ s, a = cut a (preN a.reverse b.reverse) ++ s ∧ b = cut b (preN a.reverse b.reverse) ++ s := by
  have h := pre_split a.reverse b.reverse
  have hl := preN_le a.reverse b.reverse
  generalize preN a.reverse b.reverse = q at h hl
  rw [List.length_reverse, List.length_reverse] at hl
  refine ⟨(a.reverse.take q).reverse, ?_, ?_⟩
  · rw [List.reverse_take, List.reverse_reverse, List.length_reverse]
    exact (List.take_append_drop _ _).symm
  · rw [h, List.reverse_take, List.reverse_reverse, List.length_reverse]
    exact (List.take_append_drop _ _).symm
theorem ed_pre' {p x y a b : List Nat} (h1 : x = p ++ a) (h2 : y = p ++ b) : edN x y = edN a b := by
  subst h1 h2; exact ed_pre costN _ _ _
theorem ed_post' {p x y a b : List Nat} (h1 : x = a ++ p) (h2 : y = b ++ p) : edN x y = edN a b := by
  subst h1 h2; exact ed_post costN _ _ _
theorem levL_spec (x y : List Nat) (mx : Int) : Told mx (edN x y) (levL x y mx) := by
  unfold levL
  split
  · rename_i h
    subst h
    rw [edN, ed_self costN]
    exact ⟨fun _ => rfl, fun _ => .inl rfl⟩
  · dsimp only
    have e0 : edN x y = edN (x.drop (preN x y)) (y.drop (preN x y)) :=
      ed_pre' (p := x.take (preN x y)) (List.take_append_drop _ _).symm (by rw [pre_split x y]; exact (List.take_append_drop _ _).symm)
    obtain ⟨s, e1, e2⟩ := cut_split (x.drop (preN x y)) (y.drop (preN x y))
    have e3 := ed_post' e1 e2
    rw [e0, e3, edN, ← ed_rev]
    exact core_spec mx _ _
theorem pre_head : ∀ (x y : List Nat), preN (x.drop (preN x y)) (y.drop (preN x y)) = 0
  | [], _ => by simp [preN]
  | _ :: _, [] => by simp [preN]
  | a :: x, b :: y => by
    by_cases h : a = b
    · subst h
      have e : preN (a :: x) (a :: y) = preN x y + 1 := by simp [preN]
      rw [e, List.drop_succ_cons, List.drop_succ_cons]
      exact pre_head x y
    · have e : preN (a :: x) (b :: y) = 0 := by simp [preN, h]
      rw [e]; exact e
theorem core_0 (c d : Nat) (a b : List Nat) (hl : (c :: a).length = (d :: b).length) (hcd : c ≠ d) : core (c :: a) (d :: b) 0 = 1 := by
  unfold core
  rw [if_neg (by simp), if_neg (by first | (grind) | omega)]
  unfold core2
  rw [if_neg (by rw [hl]; first | (grind) | omega)]
  have hs := inner_spec d 0 (c :: a) [] [] 0 0 9223372036854775807 (by show _ = ((ed gN [] [] : Nat) : Int); rw [ed_nilL]; rfl) (.inr ⟨rfl, rfl⟩)
  have hr : rowE [] (c :: a) [] = row0 (c :: a).length := by rw [row0_eq]; simp [row0]
  rw [hr] at hs
  have hpos : (0 : Int) < (inner d (c :: a) (row0 (c :: a).length) 0 0 9223372036854775807).2.2 := by
    rw [hs.2.2]
    refine ⟨by first | (grind) | omega, fun e he => ?_⟩
    obtain ⟨u, v, h1, h2, rfl⟩ := (mem_rowE _ _ _ _).mp he
    rw [List.append_nil]
    rcases Nat.eq_zero_or_pos (edN u.reverse [d]) with h0 | h0
    · exfalso
      have e9 := ed_zero costN h0
      have e8 : u = [d] := by have := congrArg List.reverse e9; simpa using this
      rw [e8] at h1
      exact hcd (List.cons.inj h1).1
    · first | (grind) | omega
  rw [outer]
  simp only [Int.zero_mul]
  rw [if_pos hpos]
  rfl
/-- the bound 0 at two texts of one length, not alike -/
theorem levL_0 (x y : List Nat) (hl : x.length = y.length) (hne : x ≠ y) : levL x y 0 = 1 := by
  unfold levL
  rw [if_neg hne]
  dsimp only
  have hx := pre_split x y
  have hh := pre_head x y
  have hk := preN_le x y
  have la : (x.drop (preN x y)).length = (y.drop (preN x y)).length := by rw [List.length_drop, List.length_drop, hl]
  have hab : x.drop (preN x y) ≠ y.drop (preN x y) := by
    intro e
    apply hne
    rw [← List.take_append_drop (preN x y) x, e, hx, List.take_append_drop]
  generalize x.drop (preN x y) = a at *
  generalize y.drop (preN x y) = b at *
  obtain ⟨s, e1, e2⟩ := cut_split a b
  have hq := preN_le a.reverse b.reverse
  rw [List.length_reverse, List.length_reverse] at hq
  generalize preN a.reverse b.reverse = q at *
  have lc : (cut a q).length = (cut b q).length := by unfold cut; rw [List.length_take, List.length_take, la]
  match a, b, la, hab, hh with
  | [], [], _, hab, _ => exact absurd rfl hab
  | c :: a, d :: b, la, hab, hh =>
    have hcd : c ≠ d := by
      intro e
      subst e
      simp [preN] at hh
    have hpos : 0 < (c :: a).length - q := by
      rcases Nat.eq_zero_or_pos ((c :: a).length - q) with h0 | h0
      · exfalso
        have z1 : cut (c :: a) q = [] := by unfold cut; rw [h0]; rfl
        have z2 : cut (d :: b) q = [] := by unfold cut; rw [← la, h0]; rfl
        rw [z1] at e1
        rw [z2] at e2
        exact hab (e1.trans e2.symm)
      · exact h0
    obtain ⟨n, hn⟩ : ∃ n, (c :: a).length - q = n + 1 := ⟨_, (Nat.sub_add_cancel hpos).symm⟩
    have c1 : cut (c :: a) q = c :: a.take n := by unfold cut; rw [hn]; rfl
    have c2 : cut (d :: b) q = d :: b.take n := by unfold cut; rw [← la, hn]; rfl
    rw [c1, c2] at lc ⊢
    exact core_0 c d _ _ lc hcd
end Mine
end
section
open PySem PySem.W
namespace Mine
/-! the dots' side -/
theorem findL_step {G y : List Nat} {sp ep : Nat} (h : sp ≤ ep) : findL G y sp ep = if hitL G y ep sp then some sp else findL G y (sp + 1) ep := by
  unfold findL
  rw [show ep + 1 - sp = (ep - sp) + 1 by first | (grind) | omega, List.range'_succ, List.find?_cons]
  have e : ep + 1 - (sp + 1) = ep - sp := by first | (grind) | omega
  rw [e]
  cases hitL G y ep sp <;> rfl
theorem findL_over {G y : List Nat} {sp ep : Nat} (h : ep < sp) : findL G y sp ep = none := by
  unfold findL
  rw [show ep + 1 - sp = 0 by first | (grind) | omega]
  rfl
theorem findL_nil {G : List Nat} {sp ep : Nat} (h : sp ≤ ep) : findL G [] sp ep = some sp := by
  rw [findL_step h, if_pos (by simp [hitL, h])]
theorem hit_one {G : List Nat} {c i : Nat} (h : i < G.length) : hitL G [c] G.length i = decide (G[i] = c) := by
  unfold hitL
  rw [List.drop_eq_getElem_cons h]
  simp only [List.length_cons, List.length_nil, List.take_succ_cons, List.take_zero]
  have : decide (i + (0 + 1) ≤ G.length) = true := by simp; first | (grind) | omega
  rw [this, Bool.true_and, Bool.eq_iff_iff]
  simp
theorem ellC_sub (G : List Nat) : ∀ (l : List Nat) (sp : Nat), sp ≤ G.length → (ellC G G.length (l.map (fun c => [c]) ++ [[]]) sp = true ↔ l.Sublist (G.drop sp))
  | [], sp, h => by
    have e : ellC G G.length (([] : List Nat).map (fun c => [c]) ++ [[]]) sp = true := by
      show (match findL G [] sp G.length with | none => false | some i => ellC G G.length [] (i + 0)) = true
      rw [findL_nil h]
      rfl
    simp only [e, true_iff]
    exact List.nil_sublist _
  | c :: l, sp, h => by
    have ih := ellC_sub G l
    have key : ∀ (n sp : Nat), sp ≤ G.length → G.length - sp = n → (ellC G G.length ((c :: l).map (fun c => [c]) ++ [[]]) sp = true ↔ (c :: l).Sublist (G.drop sp)) := by
      intro n
      induction n with
      | zero =>
        intro sp h hn
        have e : sp = G.length := by first | (grind) | omega
        have e2 : findL G [c] sp G.length = none := by
          rw [findL_step h, if_neg (by simp [hitL]; first | (grind) | omega), findL_over (by first | (grind) | omega)]
        show (match findL G [c] sp G.length with | none => false | some i => ellC G G.length (l.map (fun c => [c]) ++ [[]]) (i + 1)) = true ↔ _
        rw [e2, List.drop_of_length_le (by first | (grind) | omega)]
        simp
      | succ n ihn =>
        intro sp h hn
        have hlt : sp < G.length := by first | (grind) | omega
        show (match findL G [c] sp G.length with | none => false | some i => ellC G G.length (l.map (fun c => [c]) ++ [[]]) (i + 1)) = true ↔ _
        rw [findL_step h, hit_one hlt, List.drop_eq_getElem_cons hlt]
        by_cases hc : G[sp] = c
        · rw [if_pos (by simpa using hc)]
          dsimp only
          rw [ih (sp + 1) hlt, hc, List.cons_sublist_cons]
        · rw [if_neg (by simpa using hc)]
          have h9 := ihn (sp + 1) hlt (by first | (grind) | omega)
          have h8 : (match findL G [c] (sp + 1) G.length with | none => false | some i => ellC G G.length (l.map (fun c => [c]) ++ [[]]) (i + 1)) = true ↔ (c :: l).Sublist (G.drop (sp + 1)) := h9
          rw [h8]
          constructor
          · exact fun h => .cons _ h
          · intro h
            cases h with
            | cons _ h => exact h
            | cons_cons => exact absurd rfl hc
    exact key _ sp h rfl
theorem ell_apW (l G : List Nat) : ellL (apW l) G = true ↔ l.Sublist G := by
  have hl : (apW l).getLast? = some [] := by
    unfold apW
    rw [List.getLast?_cons]
    simp
  have h1 : ellL (apW l) G = ellC G G.length (apW l) 0 := by
    rw [ellL_ab (ws := apW l) (w1 := apW l) (sp := 0) ellA_nil (ellB_nil hl)]
    simp
  have h2 : ellC G G.length (apW l) 0 = ellC G G.length (l.map (fun c => [c]) ++ [[]]) 0 := by
    show (match findL G [] 0 G.length with | none => false | some i => ellC G G.length (l.map (fun c => [c]) ++ [[]]) (i + 0)) = _
    rw [findL_nil (Nat.zero_le _)]
  rw [h1, h2, ellC_sub G l 0 (Nat.zero_le _), List.drop_zero]
/-- two texts that are small enough -/
theorem apL_ed (x y : List Nat) (n : Int) (h : (2 * ((x.length : Int) + y.length)) ≤ n) : apL x y n = (edN x y : Int) := by
  have hle : ((ed gN x y : Nat) : Int) ≤ n := by have := ed_le (g := gN) x y; first | (grind) | omega
  have hv : levL x y n = ((ed gN x y : Nat) : Int) := (levL_spec x y n).1 hle
  unfold apL
  rw [hv]
  have hc : ellL (apW (les x y)) (gre x y) = (((ed gN x y : Nat) : Int) == 2 * (((gre x y).length : Int) - ((les x y).length : Int))) := by
    rw [Bool.eq_iff_iff, ell_apW, beq_iff_eq, ed_subl costN]
    unfold les gre
    split
    · rw [ed_sym costN y x]; first | (grind) | omega
    · first | (grind) | omega
  rw [hc, bne_self_eq_false]
  rfl
/-! lines 183 to 192 -/
theorem ell_k2 (W : List Nat) (i : Nat) (hi : i ≤ W.length) : ellL [W.take i, (W.take i).reverse] W = bothK W i := by
  by_cases h0 : i = 0
  · subst h0
    simp only [List.take_zero, List.reverse_nil, bothK]
    rw [ellL_ab (ws := [[], []]) (w1 := [[], []]) (sp := 0) ellA_nil (ellB_nil rfl)]
    rw [if_neg (by first | (grind) | omega)]
    simp only [ellC]
    rw [findL_nil (Nat.zero_le _)]
    simp [findL_nil]
  · have hl : (W.take i).length = i := by rw [List.length_take]; first | (grind) | omega
    have hf : W.take i ≠ [] := fun e => h0 (by rw [← hl, e]; rfl)
    have hr : (W.take i).reverse ≠ [] := fun e => hf (by simpa using e)
    have hp : (W.take i).isPrefixOf W = true := List.isPrefixOf_iff_prefix.mpr (List.take_prefix _ _)
    have ha : ellA [W.take i, (W.take i).reverse] W = some (i, [(W.take i).reverse]) := by
      unfold ellA
      dsimp only
      rw [if_neg hf, if_pos hp, hl]
    have hs : ((W.take i).reverse.isSuffixOf W = true) ↔ W.reverse.take i = W.take i := by
      rw [List.isSuffixOf_iff_suffix]
      rw [← List.reverse_prefix, List.reverse_reverse, List.prefix_iff_eq_take, hl]
      exact eq_comm
    unfold ellL
    rw [ha]
    dsimp only
    unfold ellB
    rw [List.getLast?_singleton]
    dsimp only
    rw [if_neg hr]
    unfold bothK
    by_cases hsx : (W.take i).reverse.isSuffixOf W = true
    · rw [if_pos hsx, List.length_reverse, hl]
      dsimp only
      rw [show (W.reverse.take i == W.take i) = true by rw [beq_iff_eq]; exact hs.mp hsx, Bool.and_true]
      split
      · symm; rw [decide_eq_false_iff_not]; first | (grind) | omega
      · symm
        simp only [List.dropLast_singleton, ellC, decide_eq_true_eq]
        first | (grind) | omega
    · rw [if_neg hsx]
      dsimp only
      symm
      rw [Bool.and_eq_false_iff]
      right
      rw [beq_eq_false_iff_ne]
      exact fun e => hsx (hs.mpr e)
theorem ell_k3 (W : List Nat) (i : Nat) (hi : i ≤ W.length) : ellL [W.reverse.take i, []] W = (W.reverse.take i == W.take i) := by
  by_cases h0 : i = 0
  · subst h0
    simp only [List.take_zero]
    rw [ellL_ab (ws := [[], []]) (w1 := [[], []]) (sp := 0) ellA_nil (ellB_nil rfl)]
    rw [if_neg (by first | (grind) | omega)]
    simp [ellC, findL_nil]
  · have hl : (W.reverse.take i).length = i := by rw [List.length_take, List.length_reverse]; first | (grind) | omega
    have hf : W.reverse.take i ≠ [] := fun e => h0 (by rw [← hl, e]; rfl)
    have hp : ((W.reverse.take i).isPrefixOf W = true) ↔ W.reverse.take i = W.take i := by
      rw [List.isPrefixOf_iff_prefix, List.prefix_iff_eq_take, hl]
    unfold ellL ellA
    dsimp only
    rw [if_neg hf]
    by_cases h : (W.reverse.take i).isPrefixOf W = true
    · rw [if_pos h, hl]
      dsimp only
      rw [ellB_nil rfl]
      dsimp only
      rw [if_neg (by first | (grind) | omega)]
      rw [show (W.reverse.take i == W.take i) = true by rw [beq_iff_eq]; exact hp.mp h]
      simp [ellC, findL_nil hi]
    · rw [if_neg h]
      dsimp only
      symm
      rw [beq_eq_false_iff_ne]
      exact fun e => h (hp.mpr e)
theorem hit_take (W y : List Nat) (k i : Nat) (hk : k ≤ W.length) : hitL W y k i = hitL (W.take k) y k i := by
  unfold hitL
  by_cases h : i + y.length ≤ k
  · have e : (W.drop i).take y.length = ((W.take k).drop i).take y.length := by
      rw [List.drop_take, List.take_take]
      congr 1
      first | (grind) | omega
    rw [e]
  · simp [h]
theorem find_take (W y : List Nat) (k : Nat) (hk : k ≤ W.length) : findL W y 0 k = findL (W.take k) y 0 (W.take k).length := by
  have hl : (W.take k).length = k := by rw [List.length_take]; first | (grind) | omega
  rw [hl]
  unfold findL
  congr 1
  funext i
  exact hit_take W y k i hk
theorem ell_k4 (W : List Nat) (i : Nat) (hi : i ≤ W.length) : ellL [[], (W.drop i).take 2, W.drop i] W = (findL (W.take i) ((W.drop i).take 2) 0 (W.take i).length).isSome := by
  by_cases h0 : i = W.length
  · subst h0
    rw [List.drop_length, List.take_nil, List.take_length, findL_nil (Nat.zero_le _)]
    rw [ellL_ab (ws := [[], [], []]) (w1 := [[], [], []]) (sp := 0) ellA_nil (ellB_nil rfl)]
    rw [if_neg (by first | (grind) | omega)]
    simp [ellC, findL_nil]
  · have hf : W.drop i ≠ [] := fun e => by
      have := congrArg List.length e
      rw [List.length_drop] at this
      simp at this
      first | (grind) | omega
    have hb : ellB [[], (W.drop i).take 2, W.drop i] W = some (i, [[], (W.drop i).take 2]) := by
      unfold ellB
      rw [show ([[], (W.drop i).take 2, W.drop i] : List (List Nat)).getLast? = some (W.drop i) from rfl]
      dsimp only
      rw [if_neg hf, if_pos (List.isSuffixOf_iff_suffix.mpr (List.drop_suffix _ _)), List.length_drop, show W.length - (W.length - i) = i by first | (grind) | omega]
      rfl
    rw [ellL_ab (ws := [[], (W.drop i).take 2, W.drop i]) ellA_nil hb, if_neg (by first | (grind) | omega)]
    show (match findL W [] 0 i with | none => false | some j => ellC W i [(W.drop i).take 2] (j + 0)) = _
    rw [findL_nil (Nat.zero_le _)]
    dsimp only
    show (match findL W ((W.drop i).take 2) 0 i with | none => false | some j => ellC W i [] (j + _)) = _
    rw [find_take W _ i hi]
    cases findL (W.take i) ((W.drop i).take 2) 0 (W.take i).length <;> rfl
end Mine
end
section
open PySem PySem.W
set_option maxRecDepth 100000
namespace Mine
/-- the price of the cheapest way to make a text read both ways -/
def palN : Nat → List Nat → Nat
  | 0, _ => 0
  | _ + 1, [] => 0
  | _ + 1, [_] => 0
  | n + 1, a :: b :: r => min (2 + min (palN n (b :: r)) (palN n (a :: (b :: r).dropLast))) (gN a ((b :: r).getLast (by simp)) + palN n (b :: r).dropLast)
theorem palN_two (n a z : Nat) (M : List Nat) : palN (n + 1) (a :: (M ++ [z])) = min (2 + min (palN n (M ++ [z])) (palN n (a :: M))) (gN a z + palN n M) := by
  cases M with
  | nil => rfl
  | cons b r =>
    have e1 : (b :: (r ++ [z])).dropLast = b :: r := by
      rw [← List.cons_append, List.dropLast_concat]
    have e2 : (b :: (r ++ [z])).getLast (by simp) = z := by rw [← Option.some_inj, ← List.getLast?_eq_some_getLast]; rw [← List.cons_append, List.getLast?_append]; rfl
    show min (2 + min (palN n (b :: (r ++ [z]))) (palN n (a :: (b :: (r ++ [z])).dropLast))) (gN a ((b :: (r ++ [z])).getLast (by simp)) + palN n (b :: (r ++ [z])).dropLast) = _
    rw [e1, e2]
    rfl
theorem ends_of {W : List Nat} (h : 2 ≤ W.length) : ∃ a M z, W = a :: (M ++ [z]) := by
  match W, h with
  | a :: b :: r, _ =>
    exact ⟨a, (b :: r).dropLast, (b :: r).getLast (by simp), by rw [List.dropLast_concat_getLast]⟩
theorem palN_le : ∀ (n : Nat) (W x h y : List Nat), W.length ≤ n → W = x ++ h ++ y.reverse → h.length ≤ 1 → palN n W ≤ edN x y
  | 0, _, _, _, _, _, _, _ => Nat.zero_le _
  | n + 1, W, x, h, y, hn, e, hh => by
    rcases Nat.lt_or_ge W.length 2 with h2 | h2
    · match W, h2 with
      | [], _ => exact Nat.zero_le _
      | [_], _ => exact Nat.zero_le _
    · obtain ⟨a, M, z, rfl⟩ := ends_of h2
      rw [palN_two]
      have ln : M.length + 2 ≤ n + 1 := by simpa using hn
      cases x with
      | nil =>
        cases y with
        | nil =>
          exfalso
          have := congrArg List.length e
          simp at this
          first | (grind) | omega
        | cons z' y' =>
          have e' : (a :: M) ++ [z] = (h ++ y'.reverse) ++ [z'] := by simpa using e
          obtain ⟨e1, e2⟩ := List.append_inj' e' rfl
          have ih := palN_le n (a :: M) [] h y' (by simp; first | (grind) | omega) (by simpa using e1) hh
          have e3 := ed_nilL (g := gN) (z' :: y')
          have e4 := ed_nilL (g := gN) y'
          rw [List.length_cons] at e3
          have e5 : palN n (a :: M) ≤ ed gN [] y' := ih
          show _ ≤ ed gN [] (z' :: y')
          first | (grind) | omega
      | cons a' x' =>
        cases y with
        | nil =>
          have e' : M ++ [z] = x' ++ h := by
            have := (List.cons.inj (show a :: (M ++ [z]) = a' :: (x' ++ h) by simpa using e)).2
            exact this
          have ih := palN_le n (M ++ [z]) x' h [] (by simp; first | (grind) | omega) (by simpa using e') hh
          have e3 := ed_nilR (g := gN) (a' :: x')
          have e4 := ed_nilR (g := gN) x'
          rw [List.length_cons] at e3
          have e5 : palN n (M ++ [z]) ≤ ed gN x' [] := ih
          show _ ≤ ed gN (a' :: x') []
          first | (grind) | omega
        | cons z' y' =>
          have e0 := List.cons.inj (show a :: (M ++ [z]) = a' :: (x' ++ h ++ y'.reverse ++ [z']) by simpa using e)
          obtain ⟨ea, eb⟩ := e0
          obtain ⟨e1, e2⟩ := List.append_inj' eb rfl
          have ez : z = z' := by simpa using e2
          subst ea
          subst ez
          have i1 := palN_le n (M ++ [z]) x' h (z :: y') (by simp; first | (grind) | omega) (by rw [e1]; simp) hh
          have i2 := palN_le n (a :: M) (a :: x') h y' (by simp; first | (grind) | omega) (by rw [e1]; simp) hh
          have i3 := palN_le n M x' h y' (by first | (grind) | omega) e1 hh
          have j1 : palN n (M ++ [z]) ≤ ed gN x' (z :: y') := i1
          have j2 : palN n (a :: M) ≤ ed gN (a :: x') y' := i2
          have j3 : palN n M ≤ ed gN x' y' := i3
          show _ ≤ ed gN (a :: x') (z :: y')
          rw [ed_cc]
          first | (grind) | omega
theorem palN_ex : ∀ (n : Nat) (W : List Nat), W.length ≤ n → ∃ x h y, W = x ++ h ++ y.reverse ∧ h.length ≤ 1 ∧ edN x y ≤ palN n W
  | 0, W, hn => ⟨[], [], [], by have : W = [] := List.length_eq_zero_iff.mp (by first | (grind) | omega); simpa using this, by simp, by simp [edN, ed_nilL]⟩
  | n + 1, W, hn => by
    rcases Nat.lt_or_ge W.length 2 with h2 | h2
    · exact ⟨[], W, [], by simp, by first | (grind) | omega, by simp [edN, ed_nilL]⟩
    · obtain ⟨a, M, z, rfl⟩ := ends_of h2
      have ln : M.length + 2 ≤ n + 1 := by simpa using hn
      rw [palN_two]
      rcases min_cases (2 + min (palN n (M ++ [z])) (palN n (a :: M))) (gN a z + palN n M) with e | e
      · rw [e]
        rcases min_cases (palN n (M ++ [z])) (palN n (a :: M)) with e | e
        · rw [e]
          obtain ⟨x, h, y, e1, e2, e3⟩ := palN_ex n (M ++ [z]) (by simp; first | (grind) | omega)
          refine ⟨a :: x, h, y, by rw [e1]; rfl, e2, ?_⟩
          have := ed_del (g := gN) a x y
          have e3' : ed gN x y ≤ palN n (M ++ [z]) := e3
          show ed gN (a :: x) y ≤ _
          first | (grind) | omega
        · rw [e]
          obtain ⟨x, h, y, e1, e2, e3⟩ := palN_ex n (a :: M) (by simp; first | (grind) | omega)
          refine ⟨x, h, z :: y, by rw [← List.cons_append, e1]; simp, e2, ?_⟩
          have := ed_ins (g := gN) z x y
          have e3' : ed gN x y ≤ palN n (a :: M) := e3
          show ed gN x (z :: y) ≤ _
          first | (grind) | omega
      · rw [e]
        obtain ⟨x, h, y, e1, e2, e3⟩ := palN_ex n M (by first | (grind) | omega)
        refine ⟨a :: x, h, z :: y, by rw [e1]; simp, e2, ?_⟩
        have := ed_cc (g := gN) a z x y
        have e3' : ed gN x y ≤ palN n M := e3
        show ed gN (a :: x) (z :: y) ≤ _
        first | (grind) | omega
/-- the same of the codes, as the law's table has it -/
def prI (c d : Nat) : Int := if c = d then 0 else if c / 2 = d / 2 then 1 else 2
def palI : Nat → List Nat → Int
  | 0, _ => 0
  | _ + 1, [] => 0
  | _ + 1, [_] => 0
  | n + 1, a :: b :: r => pmin (2 + pmin (palI n (b :: r)) (palI n (a :: (b :: r).dropLast))) (prI a ((b :: r).getLast (by simp)) + palI n (b :: r).dropLast)
end Mine
end
section
open PySem PySem.W PyProof.Rows
set_option maxRecDepth 100000
namespace Mine
theorem least5 (a b c d e : Nat) : leastL [a, b, c, d, e] = palI 5 [a, b, c, d, e] := by kernel_rfl
theorem least6 (a b c d e f : Nat) : leastL [a, b, c, d, e, f] = palI 6 [a, b, c, d, e, f] := by kernel_rfl
theorem pr_all : ∀ c, c < 5 → ∀ d, d < 5 → prI c d = (gN (ltr c) (ltr d) : Int) := by decide +kernel
theorem ltr_46 : ∀ c, c < 5 → ltr c ≠ 46 := by decide +kernel
theorem pal_map : ∀ (n : Nat) (l : List Nat), (∀ c ∈ l, c < 5) → palI n l = (palN n (l.map ltr) : Int)
  | 0, _, _ => rfl
  | _ + 1, [], _ => rfl
  | _ + 1, [_], _ => rfl
  | n + 1, a :: b :: r, h => by
    have h1 : ∀ c ∈ (b :: r), c < 5 := fun c hc => h c (.tail _ hc)
    have h2 : ∀ c ∈ (b :: r).dropLast, c < 5 := fun c hc => h1 c (mem_dropLast' hc)
    have h3 : ∀ c ∈ a :: (b :: r).dropLast, c < 5 := by
      intro c hc
      rcases List.mem_cons.mp hc with rfl | hc
      · exact h _ (.head _)
      · exact h2 c hc
    have i1 := pal_map n (b :: r) h1
    have i2 := pal_map n (a :: (b :: r).dropLast) h3
    have i3 := pal_map n (b :: r).dropLast h2
    have i4 := pr_all a (h a (.head _)) ((b :: r).getLast (by simp)) (h1 _ (List.getLast_mem _))
    show pmin (2 + pmin (palI n (b :: r)) (palI n (a :: (b :: r).dropLast))) (prI a ((b :: r).getLast (by simp)) + palI n (b :: r).dropLast) =
      ((min (2 + min (palN n ((b :: r).map ltr)) (palN n (ltr a :: ((b :: r).map ltr).dropLast))) (gN (ltr a) (((b :: r).map ltr).getLast (by simp)) + palN n ((b :: r).map ltr).dropLast) : Nat) : Int)
    rw [i1, i2, i3, i4, pmin_eq, pmin_eq]
    have e1 : ((b :: r).map ltr).getLast (by simp) = ltr ((b :: r).getLast (by simp)) := by rw [List.getLast_map]
    have e2 : ((b :: r).map ltr).dropLast = ((b :: r).dropLast).map ltr := by rw [List.map_dropLast]
    rw [e1, e2]
    show min (2 + min ((palN n ((b :: r).map ltr) : Nat) : Int) ((palN n ((a :: (b :: r).dropLast).map ltr) : Nat) : Int)) (((gN (ltr a) (ltr ((b :: r).getLast (by simp))) : Nat) : Int) + ((palN n (((b :: r).dropLast).map ltr) : Nat) : Int)) = ((min (2 + min (palN n ((b :: r).map ltr)) (palN n ((a :: (b :: r).dropLast).map ltr))) (gN (ltr a) (ltr ((b :: r).getLast (by simp))) + palN n (((b :: r).dropLast).map ltr)) : Nat) : Int)
    first | (grind) | omega
theorem least_pal {codes : List Nat} (h56 : codes.length = 5 ∨ codes.length = 6) (h5 : ∀ c ∈ codes, c < 5) : ∃ n, codes.length ≤ n ∧ leastL codes = (palN n (codes.map ltr) : Int) := by
  rcases h56 with h | h
  · match codes, h with
    | [a, b, c, d, e], _ => exact ⟨5, by simp, by rw [least5]; exact pal_map 5 _ h5⟩
  · match codes, h with
    | [a, b, c, d, e, f], _ => exact ⟨6, by simp, by rw [least6]; exact pal_map 6 _ h5⟩
/-- a state of the two piles: what lies on the first, in the hand, on the other -/
def IsSplit (W : List Nat) (t : List Nat × List Nat × List Nat) : Prop := W = t.1 ++ t.2.1 ++ t.2.2.reverse ∧ t.2.1.length ≤ 1
theorem trW5 (a b c d e : Nat) : trW [a, b, c, d, e] = [([a, b, c, d, e], [], []), ([a, b, c, d, e], [], []), ([a, b, c, d, e], [], []), ([a, b, c, d], [e], []), ([a, b, c, d], [], [e]), ([a, b, c], [d], [e]), ([a, b, c], [], [e, d]), ([a, b], [c], [e, d]), ([a, b], [], [e, d, c]), ([a], [b], [e, d, c]), ([a], [], [e, d, c, b]), ([], [a], [e, d, c, b])] := rfl
theorem trW6 (a b c d e f : Nat) : trW [a, b, c, d, e, f] = [([a, b, c, d, e, f], [], []), ([a, b, c, d, e], [f], []), ([a, b, c, d, e], [], [f]), ([a, b, c, d], [e], [f]), ([a, b, c, d], [], [f, e]), ([a, b, c], [d], [f, e]), ([a, b, c], [], [f, e, d]), ([a, b], [c], [f, e, d]), ([a, b], [], [f, e, d, c]), ([a], [b], [f, e, d, c]), ([a], [], [f, e, d, c, b]), ([], [a], [f, e, d, c, b])] := rfl
theorem tr50 (a b c d e : Nat) : ∀ j, j ≠ 0 → j + 0 ≤ 5 → ((([a, b, c, d, e] : List Nat).take j, ([a, b, c, d, e].drop j).take 0, ([a, b, c, d, e].drop (j + 0)).reverse) : List Nat × List Nat × List Nat) ∈ trW [a, b, c, d, e]
  | 0, h, _ => absurd rfl h
  | 1, _, _ => List.mem_of_getElem? (i := 10) rfl
  | 2, _, _ => List.mem_of_getElem? (i := 8) rfl
  | 3, _, _ => List.mem_of_getElem? (i := 6) rfl
  | 4, _, _ => List.mem_of_getElem? (i := 4) rfl
  | 5, _, _ => List.mem_of_getElem? (i := 0) rfl
  | j + 6, _, h => absurd h (by first | (grind) | omega)
theorem tr51 (a b c d e : Nat) : ∀ j, j + 1 ≤ 5 → ((([a, b, c, d, e] : List Nat).take j, ([a, b, c, d, e].drop j).take 1, ([a, b, c, d, e].drop (j + 1)).reverse) : List Nat × List Nat × List Nat) ∈ trW [a, b, c, d, e]
  | 0, _ => List.mem_of_getElem? (i := 11) rfl
  | 1, _ => List.mem_of_getElem? (i := 9) rfl
  | 2, _ => List.mem_of_getElem? (i := 7) rfl
  | 3, _ => List.mem_of_getElem? (i := 5) rfl
  | 4, _ => List.mem_of_getElem? (i := 3) rfl
  | j + 5, h => absurd h (by first | (grind) | omega)
theorem tr60 (a b c d e f : Nat) : ∀ j, j ≠ 0 → j + 0 ≤ 6 → ((([a, b, c, d, e, f] : List Nat).take j, ([a, b, c, d, e, f].drop j).take 0, ([a, b, c, d, e, f].drop (j + 0)).reverse) : List Nat × List Nat × List Nat) ∈ trW [a, b, c, d, e, f]
  | 0, h, _ => absurd rfl h
  | 1, _, _ => List.mem_of_getElem? (i := 10) rfl
  | 2, _, _ => List.mem_of_getElem? (i := 8) rfl
  | 3, _, _ => List.mem_of_getElem? (i := 6) rfl
  | 4, _, _ => List.mem_of_getElem? (i := 4) rfl
  | 5, _, _ => List.mem_of_getElem? (i := 2) rfl
  | 6, _, _ => List.mem_of_getElem? (i := 0) rfl
  | j + 7, _, h => absurd h (by first | (grind) | omega)
theorem tr61 (a b c d e f : Nat) : ∀ j, j + 1 ≤ 6 → ((([a, b, c, d, e, f] : List Nat).take j, ([a, b, c, d, e, f].drop j).take 1, ([a, b, c, d, e, f].drop (j + 1)).reverse) : List Nat × List Nat × List Nat) ∈ trW [a, b, c, d, e, f]
  | 0, _ => List.mem_of_getElem? (i := 11) rfl
  | 1, _ => List.mem_of_getElem? (i := 9) rfl
  | 2, _ => List.mem_of_getElem? (i := 7) rfl
  | 3, _ => List.mem_of_getElem? (i := 5) rfl
  | 4, _ => List.mem_of_getElem? (i := 3) rfl
  | 5, _ => List.mem_of_getElem? (i := 1) rfl
  | j + 6, h => absurd h (by first | (grind) | omega)
theorem tr_mem {W : List Nat} (h : W.length = 5 ∨ W.length = 6) (j k : Nat) (hk : k ≤ 1) (hj : j + k ≤ W.length) (h0 : ¬ (j = 0 ∧ k = 0)) : (W.take j, (W.drop j).take k, (W.drop (j + k)).reverse) ∈ trW W := by
  have hk' : k = 0 ∨ k = 1 := by first | (grind) | omega
  rcases h with h | h
  · match W, h with
    | [a, b, c, d, e], _ =>
      rcases hk' with rfl | rfl
      · exact tr50 a b c d e j (fun e => h0 ⟨e, rfl⟩) hj
      · exact tr51 a b c d e j hj
  · match W, h with
    | [a, b, c, d, e, f], _ =>
      rcases hk' with rfl | rfl
      · exact tr60 a b c d e f j (fun e => h0 ⟨e, rfl⟩) hj
      · exact tr61 a b c d e f j hj
theorem tr_split {W : List Nat} (h : W.length = 5 ∨ W.length = 6) : ∀ t ∈ trW W, IsSplit W t := by
  rcases h with h | h
  · match W, h with
    | [a, b, c, d, e], _ =>
      intro t ht
      rw [trW5] at ht
      simp only [List.mem_cons, List.not_mem_nil, or_false] at ht
      rcases ht with rfl | rfl | rfl | rfl | rfl | rfl | rfl | rfl | rfl | rfl | rfl | rfl <;> exact ⟨rfl, by simp⟩
  · match W, h with
    | [a, b, c, d, e, f], _ =>
      intro t ht
      rw [trW6] at ht
      simp only [List.mem_cons, List.not_mem_nil, or_false] at ht
      rcases ht with rfl | rfl | rfl | rfl | rfl | rfl | rfl | rfl | rfl | rfl | rfl | rfl <;> exact ⟨rfl, by simp⟩
theorem split_shape {W : List Nat} {t : List Nat × List Nat × List Nat} (h : IsSplit W t) : t.1 = W.take t.1.length ∧ t.2.1 = (W.drop t.1.length).take t.2.1.length ∧ t.2.2 = (W.drop (t.1.length + t.2.1.length)).reverse ∧ t.1.length + t.2.1.length ≤ W.length := by
  obtain ⟨x, hh, y⟩ := t
  obtain ⟨e, _⟩ := h
  dsimp only at e ⊢
  subst e
  refine ⟨by simp, by simp, ?_, by simp⟩
  rw [← List.length_append, List.drop_left]
  simp
theorem tr_ex {W : List Nat} (h : W.length = 5 ∨ W.length = 6) {t : List Nat × List Nat × List Nat} (ht : IsSplit W t) : ∃ t' ∈ trW W, edN t'.1 t'.2.2 ≤ edN t.1 t.2.2 := by
  obtain ⟨s1, s2, s3, s4⟩ := split_shape ht
  by_cases h0 : t.1.length = 0 ∧ t.2.1.length = 0
  · refine ⟨_, tr_mem h 0 1 (by first | (grind) | omega) (by first | (grind) | omega) (by first | (grind) | omega), ?_⟩
    dsimp only
    rw [s1, s3, h0.1, h0.2, List.take_zero, edN, ed_nilL, ed_nilL]
    simp
    first | (grind) | omega
  · refine ⟨_, tr_mem h t.1.length t.2.1.length ht.2 s4 h0, ?_⟩
    dsimp only
    rw [← s1, ← s3]
    exact Nat.le_refl _
theorem first_at {α : Type} (q : α → Prop) : ∀ (l : List α), (∃ a ∈ l, q a) → ∃ (j : Nat) (a : α), j < l.length ∧ l[j]? = some a ∧ q a ∧ ∀ m, m < j → ∀ a', l[m]? = some a' → ¬ q a'
  | [], h => by obtain ⟨a, h, _⟩ := h; cases h
  | b :: l, h => by
    by_cases hb : q b
    · exact ⟨0, b, by simp, rfl, hb, fun m hm => absurd hm (Nat.not_lt_zero _)⟩
    · have h' : ∃ a ∈ l, q a := by
        obtain ⟨a, ha, hq⟩ := h
        rcases List.mem_cons.mp ha with rfl | ha
        · exact absurd hq hb
        · exact ⟨a, ha, hq⟩
      obtain ⟨j, a, h1, h2, h3, h4⟩ := first_at q l h'
      refine ⟨j + 1, a, by simp; first | (grind) | omega, by simpa using h2, h3, ?_⟩
      intro m hm a' ha'
      cases m with
      | zero =>
        simp at ha'
        exact ha' ▸ hb
      | succ m => exact h4 m (by first | (grind) | omega) a' (by simpa using ha')
theorem tr_len {W : List Nat} (h : W.length = 5 ∨ W.length = 6) : (trW W).length = 12 := by
  rcases h with h | h
  · match W, h with
    | [a, b, c, d, e], _ => rfl
  · match W, h with
    | [a, b, c, d, e, f], _ => rfl
theorem apT_ed {W : List Nat} {t : List Nat × List Nat × List Nat} (h : IsSplit W t) : apT W t = (edN t.1 t.2.2 : Int) := by
  unfold apT
  refine apL_ed _ _ _ ?_
  have := congrArg List.length h.1
  simp only [List.length_append, List.length_reverse] at this
  first | (grind) | omega
/-- the text mended at a state lies halfway -/
theorem half_ed {W : List Nat} {t : List Nat × List Nat × List Nat} (h : IsSplit W t) : edN W (meT t) = edN t.1 t.2.2 ∧ edN (meT t) W.reverse = edN t.1 t.2.2 := by
  obtain ⟨x, hh, y⟩ := t
  obtain ⟨e, e2⟩ := h
  dsimp only at e e2 ⊢
  have hr : hh.reverse = hh := by
    match hh, e2 with
    | [], _ => rfl
    | [_], _ => rfl
  have h1 : edN W (meT (x, hh, y)) = edN x y := by
    rw [e]
    show ed gN (x ++ hh ++ y.reverse) (x ++ hh ++ x.reverse) = ed gN x y
    rw [ed_pre costN, ed_rev, ed_sym costN]
  refine ⟨h1, ?_⟩
  have hp : (meT (x, hh, y)).reverse = meT (x, hh, y) := by
    show (x ++ hh ++ x.reverse).reverse = x ++ hh ++ x.reverse
    simp [hr]
  rw [← hp]
  show ed gN (meT (x, hh, y)).reverse W.reverse = _
  rw [ed_rev, ed_sym costN]
  exact h1
/-- the word and the word turned round -/
theorem turn_ed {W : List Nat} {l : Nat} (hall : ∀ t, IsSplit W t → l ≤ edN t.1 t.2.2) : 2 * l ≤ edN W W.reverse := by
  have hal := ed_al (g := gN) W W.reverse
  rcases al_split hal W.length (by simp) with ⟨x1, x2, y1, y2, e1, e2, e3, e4⟩ | ⟨x1, a, x2, y1, b, y2, e1, e2, e3, e4⟩
  · have hl : y1.length = x2.reverse.length := by
      have := congrArg List.length e1
      simp only [List.length_append, List.length_reverse] at this ⊢
      first | (grind) | omega
    have e5 : x2.reverse ++ x1.reverse = y1 ++ y2 := by rw [← e2, e1]; simp
    obtain ⟨h1, h2⟩ := List.append_inj e5 hl.symm
    have k1 := hall (x1, [], x2.reverse) ⟨by simp [e1], by simp⟩
    have k2 : ed gN x2 y2 = ed gN x1 y1 := by
      rw [← h1, ← h2, ← ed_rev, List.reverse_reverse, ed_sym costN]
    have k3 : l ≤ ed gN x1 y1 := by rw [← h1]; exact k1
    show 2 * l ≤ ed gN W W.reverse
    first | (grind) | omega
  · have hl : y1.length = x2.reverse.length := by
      have := congrArg List.length e1
      simp only [List.length_append, List.length_reverse, List.length_cons] at this ⊢
      first | (grind) | omega
    have e5 : x2.reverse ++ (a :: x1.reverse) = y1 ++ (b :: y2) := by rw [← e2, e1]; simp
    obtain ⟨h1, h2⟩ := List.append_inj e5 hl.symm
    obtain ⟨_, h3⟩ := List.cons.inj h2
    have k1 := hall (x1, [a], x2.reverse) ⟨by simp [e1], by simp⟩
    have k2 : ed gN x2 y2 = ed gN x1 y1 := by
      rw [← h1, ← h3, ← ed_rev, List.reverse_reverse, ed_sym costN]
    have k3 : l ≤ ed gN x1 y1 := by rw [← h1]; exact k1
    show 2 * l ≤ ed gN W W.reverse
    first | (grind) | omega
theorem law_facts (codes : List Nat) (h56 : codes.length = 5 ∨ codes.length = 6) (h5 : ∀ c ∈ codes, c < 5) : LawFacts codes (codes.map ltr) (leastL codes) := by
  have hd : 46 ∉ codes.map ltr := by
    intro hm
    obtain ⟨c, hc, e⟩ := List.mem_map.mp hm
    exact ltr_46 c (h5 c hc) e
  obtain ⟨n, hn, hl⟩ := least_pal h56 h5
  rw [← List.length_map (f := ltr)] at h56 hn
  rw [hl]
  generalize codes.map ltr = W at *
  have hall : ∀ t, IsSplit W t → palN n W ≤ edN t.1 t.2.2 := fun t ht => palN_le n W t.1 t.2.1 t.2.2 hn ht.1 ht.2
  obtain ⟨x, hh, y, e1, e2, e3⟩ := palN_ex n W hn
  obtain ⟨t0, ht0, hle⟩ := tr_ex h56 (t := (x, hh, y)) ⟨e1, e2⟩
  have hex : ∃ t ∈ trW W, apT W t = (palN n W : Int) := by
    refine ⟨t0, ht0, ?_⟩
    have hs := tr_split h56 t0 ht0
    have h9 := hall t0 hs
    have h8 : edN t0.1 t0.2.2 = palN n W := Nat.le_antisymm (Nat.le_trans hle e3) h9
    rw [apT_ed hs, h8]
  obtain ⟨j, t, hj, hjt, hq, hfirst⟩ := first_at (fun t => apT W t = (palN n W : Int)) (trW W) hex
  have hs := tr_split h56 t (List.mem_of_getElem? hjt)
  have het : edN t.1 t.2.2 = palN n W := by
    have := apT_ed hs
    rw [hq] at this
    first | (grind) | omega
  obtain ⟨v1, v2⟩ := half_ed hs
  rw [het] at v1 v2
  have hlow := turn_ed hall
  have hup : edN W W.reverse ≤ edN W (meT t) + edN (meT t) W.reverse := ed_tri costN _ _ _
  have hww : edN W W.reverse = 2 * palN n W := by rw [v1, v2] at hup; first | (grind) | omega
  have hww' : edN W.reverse W = 2 * palN n W := by rw [← hww]; exact ed_sym costN _ _
  have hpal : (palN n W : Int) = 0 ↔ W.reverse = W := by
    constructor
    · intro e
      exact (ed_zero costN (show ed gN W W.reverse = 0 from by have h9 : ed gN W W.reverse = 2 * palN n W := hww; first | (grind) | omega)).symm
    · intro e
      rw [e] at hww
      have h9 : ed gN W W = 0 := ed_self costN W
      have h8 : ed gN W W = 2 * palN n W := hww
      first | (grind) | omega
  have hlt := tr_len h56
  have hsize : (meT t).length ≤ 40 := by
    have := congrArg List.length hs.1
    unfold meT
    simp only [List.length_append, List.length_reverse] at this ⊢
    first | (grind) | omega
  have hbig : palN n W ≤ 12 := by
    rw [← het]
    have h9 := ed_le (g := gN) t.1 t.2.2
    have := congrArg List.length hs.1
    simp only [List.length_append, List.length_reverse] at this
    have h8 : edN t.1 t.2.2 ≤ 2 * (t.1.length + t.2.2.length) := h9
    first | (grind) | omega
  exact {
    n0 := by first | (grind) | omega
    n1 := by first | (grind) | omega
    dot := hd
    all := fun t' ht' => by
      have hs' := tr_split h56 t' ht'
      rw [apT_ed hs']
      exact Int.ofNat_le.mpr (hall t' hs')
    half := ⟨j, t, by first | (grind) | omega, hjt, hq, hfirst, by rw [(levL_spec W (meT t) (palN n W)).1 (by rw [v1]; exact Int.le_refl _), v1], by rw [(levL_spec (meT t) W.reverse (palN n W)).1 (by rw [v2]; exact Int.le_refl _), v2], hsize⟩
    ww := by
      rw [(levL_spec W W.reverse (2 * (palN n W : Int))).1 (by rw [hww]; first | (grind) | omega), hww]; first | (grind) | omega
    w1 := fun h0 => by
      have h9 := (levL_spec W.reverse W (2 * (palN n W : Int) - 1)).2 (by rw [hww']; first | (grind) | omega)
      rw [hww'] at h9
      first | (grind) | omega
    w0 := fun h0 => levL_0 _ _ (by rw [List.length_reverse]) (fun e => by have := hpal.mpr e; first | (grind) | omega)
    pal := hpal
    k2 := fun i hi => ell_k2 W i hi
    k3 := fun i hi => ell_k3 W i hi
    k4 := fun i hi => ell_k4 W i hi }
end Mine
end
section
open PySem PySem.W PyProof.Rows PySem.W.X
namespace Mine
noncomputable def qV : Program := { PySem.Challenge.rw_sn0024_01.row.prog with main := { PySem.Challenge.rw_sn0024_01.row.prog.main with body := [stK 16] } }
noncomputable def KZ (P : Params) : Frag := (nat_lit 91, ({ cls := .none, data := .fields #[] } : Obj)) :: hd.heap_39 P
def loZ : List Str := ["_wall", "_MAX_STRING_SIZE", "_MOVE_COST", "_CASE_COST", "_substitution_cost", "_levenshtein_distance", "ELLIPSIS_MARKER", "_ellipsis_match", "_Accumulator", "EMPTYSTRING", "_law_least", "_law_apart"].map Str.ofString
def adZ : List Addr := [91, 2, 3, 15, 17, 18, 20, 21, 22, 24, 25, 27, 28, 29, 31, 32, 34, 35, 36, 38, 39, 41, 42, 43, 46, 51, 52, 53, 55, 56, 58, 59, 60, 62, 63, 65, 66, 67, 68, 70, 71, 73, 74, 75, 76, 78, 79, 81, 82, 83, 85, 86, 88, 89, 90, 92, 93, 95, 96, 97, 98, 100, 101, 103, 104, 105, 107, 108, 110, 111, 112, 113, 115, 116, 118, 119, 120, 121, 122, 123, 124, 127, 130, 131, 132, 135, 136, 137, 140, 141]
set_option maxRecDepth 100000
set_option maxHeartbeats 8000000
theorem ph_hl : LeftO PySem.Challenge.rw_sn0024_01.row.prog qV loZ (fun s => xlAt qV [] s && recOk (RowW.records (OpenRow.toRowW PySem.Challenge.rw_sn0024_01.row)) s) (obsZ adZ) (valZ KZ 142 365) 1720 := by
  intro w
  kernel_rfl
end Mine
end
end Lines
open PySem PySem.W PyProof.Rows PySem.W.X
def Mine.codeD : Data → Value
  | .func f => f.code
  | _ => .none
set_option maxRecDepth 100000 in
set_option maxHeartbeats 8000000 in
theorem PySem.Challenge.cw_sn0024_01_holds : PySem.Challenge.rw_sn0024_01.Holds := by
  w_on; o_law
  refine holds_openX (q := Mine.qV) (loose := Mine.loZ) (Xt := fun s => xlAt Mine.qV [] s && recOk (RowW.records (OpenRow.toRowW PySem.Challenge.rw_sn0024_01.row)) s) (XP := XL Mine.qV []) (Yf := obsZ Mine.adZ) (Ya := valZ Mine.KZ 142 365) (N := 1720) Mine.ph_hl (fun s e => xl_of s (Bool.and_eq_true_iff.mp e).1) XL.keeps (by rfl) (by rfl) (by rfl) (fun s e => recFacts_of (Bool.and_eq_true_iff.mp e).2) (by rfl) (by first | assumption | decide +kernel) (by decide +kernel) ⟨rfl, rfl, rfl, rfl, rfl, by decide +kernel⟩ ?hw ?hc
  case hw => w_witness2
  case hc =>
    intro w s₀ s₁ mg mb G y fa o pm cd doc dV kV ho hd hcd hD hmg hhg args vals as L hpre hlay hrd hwl hlo
    have zf := z_facts (K := Mine.KZ) (fun P => rfl) y
    have KX : (Mine.KZ w.params).In s₁.heap := InK.keeps w s₀.heap s₁.heap zf.2.1 (Laid.keeps L)
    have X39 : (Mine.hd.heap_39 w.params).In s₁.heap := fun a o ha => KX a o (by
      show List.lookup a ((91, _) :: Mine.hd.heap_39 w.params) = some o
      rw [List.lookup_cons]
      split
      · rename_i e
        have e1 : a = 91 := by simpa using e
        rw [e1] at ha
        have e9 : List.lookup 91 (Mine.hd.heap_39 w.params) = none := rfl
        rw [e9] at ha
        cases ha
      · exact ha)
    have g91 : s₁.heap.get? 91 = some ({ cls := .none, data := .fields #[] } : Obj) := KX 91 _ rfl
    clear zf KX y
    refine Ground.open G ?_
    intro T B D TE TW
    obtain ⟨bm, obm, M⟩ := bmod_of_top T
    have TA := at_of_top T
    wrow_args hpre hlay hrd hwl hlo
    all_goals (first | refine callC_kw (enter_call ?_) | refine enter_call ?_ | refine callC_kw (enter_callW ?_) | refine enter_callW ?_ | w_how)
    w_top on
    have K0 := below_caller (Top.heap T)
    w_call any ho hd hcd hD T F
    clear TA K0
    have hC : s₁.heap.IsCode 95 91 #[] := ⟨_, _, _, _, _, _, _, _, _, _, X39 95 _ rfl, rfl, rfl, rfl, rfl, rfl, rfl, g91, rfl, (by with_unfolding_all trivial), by decide⟩
    have hT : s₁.heap.TableAt 95 91 #[] := ⟨⟨_, _, X39 95 _ rfl, rfl, rfl, rfl⟩, g91⟩
    have h1 := mg_of (n := Str.ofString "law") (v := .ref 141) X39 T.g rfl
    have h2 : some (Value.ref fa) = some (Value.ref 141) := Eq.trans (Eq.symm hmg) h1
    obtain rfl : fa = 141 := by cases h2; rfl
    have h3 := Eq.trans (Eq.symm ho) (X39 141 _ rfl)
    have h4 := Option.some.inj h3
    have h5 := Eq.trans (Eq.symm (congrArg Obj.data h4)) hd
    have ecd : Value.ref 140 = cd := congrArg Mine.codeD h5
    subst ecd
    clear h1 h2 h3 h4 h5
    rename IntsAre _ _ => hI
    rename PySem.Heap.IsList _ _ _ => hLst
    rename ¬ (_ < _) => hc63
    refine Mine.law_body w _ _ _ mg mb 91 _ _ _ hI (Int.ofNat_le.mp (Int.not_lt.mp hc63)) Mine.law_facts 302 7 (some []) callerA s₁.heap s₁.heap.objs.size _ _ _ (fun r s' => GoodWG Challenge.rw_sn0024_01.row.claim (classAt s₀.heap) (ExcName.means s₀.heap) _ s₁ r s') below_caller F rfl hLst X39 T ?hG hC hT (by decide) (by decide) (by decide) ?hQ
    case hG =>
      show AllBare s₁.gens
      rw [hhg]
      intro g hg
      simp at hg
    case hQ =>
      intro s' hR ps m' BR F' G' os'
      exact goodWG_reads BR F' G' (raisesW_false (by wrow_none_raised)) (ReadsW.bool true) (fun _ => ⟨List.nodup_nil, fun a h => nomatch h⟩) (by wrow_post) os'
